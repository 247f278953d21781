import PyProof.Rows.All
import Wide.All
import OpenK.AllK
import Wide.FinOn
import PySem.Challenge.RW_rk0003_01
open PySem PySem.W PyProof.Rows PySem.Calls PySem.W.X
set_option Elab.async false
set_option maxRecDepth 100000
set_option maxHeartbeats 8000000
set_option rowWalk.seconds 0
open_top Mine.hd for PySem.Challenge.rw_rk0003_01
theorem Mine.topOff : True := by
  w_top off
  trivial
namespace Mine

/-- all that stood stands as it was, but for the addresses wr -/
def KeepBut (wr : List Addr) (h h' : Heap) : Prop := ∀ b o, b ∉ wr → h.get? b = some o → h'.get? b = some o
abbrev Keep (h h' : Heap) : Prop := ∀ b o, h.get? b = some o → h'.get? b = some o

theorem KeepBut.refl (wr : List Addr) (h : Heap) : KeepBut wr h h := fun _ _ _ e => e
theorem KeepBut.trans {wr : List Addr} {a b c : Heap} (x : KeepBut wr a b) (y : KeepBut wr b c) : KeepBut wr a c := fun i o n e => y i o n (x i o n e)
theorem KeepBut.mono {wr wr' : List Addr} {a b : Heap} (x : KeepBut wr a b) (h : ∀ i ∈ wr, i ∈ wr') : KeepBut wr' a b := fun i o n e => x i o (fun m => n (h i m)) e
theorem KeepBut.ofKeep {wr : List Addr} {a b : Heap} (x : Keep a b) : KeepBut wr a b := fun i o _ e => x i o e
theorem KeepBut.keep {a b : Heap} (x : KeepBut [] a b) : Keep a b := fun i o e => x i o (by simp) e

/-- the base lies in the heap, and below it -/
structure Over (base h : Heap) : Prop where
  keep : Keep base h
  size : base.objs.size ≤ h.objs.size
theorem Over.ofFr {base h : Heap} {L : Addr} {m : Str → Option Value} (F : Fr base L h m) : Over base h := ⟨F.keep, Nat.le_of_lt (Nat.lt_of_le_of_lt F.above F.ns.lt)⟩

/-- all other objects of the heap, as a ledger -/
def rest (base : Heap) (L : Addr) (ex : List Addr) (h : Heap) : List (Addr × Obj) := ownOf base ((List.range h.objs.size).filter fun b => decide (b ∉ L :: ex)) h
theorem rest_news {base h : Heap} {L : Addr} {ex : List Addr} : News base L h (rest base L ex h) := news_ownOf (by
  intro hm
  have := (List.mem_filter.mp hm).2
  simp at this)
theorem rest_off {base h : Heap} {L : Addr} {ex : List Addr} : ∀ p ∈ rest base L ex h, p.1 ∉ ex := fun p hp => by
  have := (List.mem_filter.mp (ownOf_sub p hp)).2
  simp only [decide_eq_true_eq, List.mem_cons, not_or] at this
  exact this.2
theorem mem_rest {base h : Heap} {L : Addr} {ex : List Addr} {b : Addr} {o : Obj} (hL : b ≠ L) (hx : b ∉ ex) (hb : base.get? b = none) (e : h.get? b = some o) : (b, o) ∈ rest base L ex h :=
  mem_ownOf (List.mem_filter.mpr ⟨List.mem_range.mpr (Heap.lt_size e), by simp [hL, hx]⟩) hb e
theorem rest_ownOff {base h : Heap} {L : Addr} {ex : List Addr} : OwnOff (rest base L ex h) ex := fun p hp b hb e => rest_off p hp (e ▸ hb)

theorem rest_keep {base h h' : Heap} {L : Addr} {ex : List Addr} {m' : Str → Option Value} {nw : List (Addr × Obj)} (F : Over base h) (F' : Fr base L h' m') (N' : News base L h' nw) (hs : ∀ p ∈ rest base L ex h, p ∈ nw) : KeepBut (L :: ex) h h' := by
  intro b o hb e
  simp only [List.mem_cons, not_or] at hb
  cases q : base.get? b with
  | some o' =>
    have : o' = o := Option.some.inj ((F.keep b o' q).symm.trans e)
    subst this
    exact F'.keep b o' q
  | none => exact (N' _ (hs _ (mem_rest hb.1 hb.2 q e))).1

section
variable {prog : Program} {w : World} {A : Around} {s : Shared}

theorem lookup_if {y a : Str} {u : Value} {r : List (Str × Value)} : List.lookup y ((a, u) :: r) = if y = a then some u else List.lookup y r := by
  rw [List.lookup_cons]
  by_cases h : y = a
  · subst h; simp
  · have : (y == a) = false := by simpa using h
    rw [this, if_neg h]

/-- entering a def, all facts told of the base -/
theorem enter {base : Heap} {K : Frag} {m : Str → Option Value} {R : Result → Shared → Prop} {name qual : Str} {params : Arguments} {body : List Stmt} {scope : Scope} {dV kV doc pm cdv ct oc : Value} {an od : Option Addr} {osl : Array (Option Value)} {f : Addr} {args : Args} {binds : List (Str × Value)}
    (O : Over base s.heap) (X : K.In base) (hlim : base.NoLimit)
    (ho : K.lookup f = some ⟨oc, od, .func (fnOf name qual params body scope dV kV doc pm an cdv ct), osl⟩) (hcd : codeIn K cdv qual = true) (hroom : A.depth < recursionLimit)
    (hbind : BindsTo s (fnOf name qual params body scope dV kV doc pm an cdv ct) args binds) (hloc : ∀ y ∈ binds, scope.names.lookup y.1 = some .local)
    (hm : ∀ y, binds.reverse.lookup y = m y)
    (h : ∀ L' h₁, s.heap.get? L' = none → s.heap.objs.size ≤ L' → Keep s.heap h₁ → Fr base L' h₁ m →
      wpAny (model prog w) (A.deeper (envOf qual scope L' f cdv)) (execs body (envOf qual scope L' f cdv))
        (fun fl s' => R (.ok (.ret (match fl with | .ret v => v | _ => .none))) s')
        (fun e s' => wpAny (model prog w) (A.deeper (envOf qual scope L' f cdv)) (leaving (envOf qual scope L' f cdv) e) (fun _ s'' => R (.error e) s'') (fun e' s'' => R (.error e') s'') s')
        { s with heap := h₁, toks := s.toks + binds.length })
    (hco : scope.isCoroutine = false) (hgen : scope.isGenerator = false) (hk : scope.kind = .function)
    (hcell : ∀ x ∈ scope.names, x.2 ≠ .cell) : codeAny (model prog w) A (.call (.ref f) args) R s :=
  codeAny_call_def (fd := fnOf name qual params body scope dV kV doc pm an cdv ct) (body := body) (binds := binds) hroom (O.keep _ _ (X _ _ ho)) rfl (hlim.keeps O.keep) (codeRec_of (X.keeps O.keep) hcd) rfl hbind hcell hloc
    (fun h₁ hns hk₁ => h _ h₁ (Heap.get?_none_of_le (Nat.le_refl _)) (Nat.le_refl _) hk₁ ⟨(funext hm : (fun y => binds.reverse.lookup y) = m) ▸ hns, fun b o e => hk₁ b o (O.keep b o e), O.size⟩) hco hgen hk

/-- the same step under weaker facts about what stands around -/
theorem wp_room {α : Type} {t : Sem α} {Q : α → Shared → Prop} {E : Value → Shared → Prop} {d u : Nat} (h : wpAny (model prog w) { handled := none, depth := d, frames := A.frames, guards := A.guards, units := u } t Q E s)
    (hh : A.handled = none) (hd : A.depth ≤ d) (hu : A.units ≤ u) : wpAny (model prog w) A t Q E s := fun Γ p hΓ =>
  h Γ p ⟨by rw [hΓ.1, hh], Nat.le_trans hΓ.2.1 hd, hΓ.2.2.1, hΓ.2.2.2.1, Nat.le_trans hΓ.2.2.2.2 hu⟩
end

/-! ## signs -/
structure Sg where
  ch : Str
  file : Str
  row : Int
  col : Int

abbrev charD (c : Str) (t : Tok) (l : Addr) (t1 t2 : Tok) (k1 k2 : Int) : Obj :=
  dictOf [⟨k1, .str (Str.ofString "char") t1, .str c t⟩, ⟨k2, .str (Str.ofString "loc") t2, .ref l⟩] 2
abbrev locO (dl : Addr) (f : Str) (row col : Int) (t t1 t2 t3 : Tok) : Obj :=
  { cls := .ref 76, dict := some dl, data := .plain, slots := #[some (.int col t2), some (.str f t), some (.int 1 t3), some (.int row t1), some .none] }

/-- objects that no iterator turns -/
def solid (o : Obj) : Prop := (∃ a, o.cls = .ref a) ∨ o.cls = .type "tuple" ∨ o.cls = .type "dict"

/-- a place object, its addresses within P -/
def LocP (P : Addr → Prop) (h : Heap) (l : Addr) (f : Str) (row col : Int) : Prop :=
  ∃ dl t t1 t2 t3, h.get? l = some (locO dl f row col t t1 t2 t3) ∧ h.get? dl = some (dictOf [] 0) ∧ P l ∧ P dl
/-- a sign object, its addresses within P -/
def CharP (P : Addr → Prop) (h : Heap) (x : Addr) (g : Sg) : Prop :=
  ∃ dx l t t1 t2 k1 k2, h.get? x = some (instObj 38 dx) ∧ h.get? dx = some (charD g.ch t l t1 t2 k1 k2) ∧ P x ∧ P dx ∧ LocP P h l g.file g.row g.col

theorem LocP.keep {P : Addr → Prop} {h h' : Heap} {l : Addr} {f : Str} {row col : Int} (x : LocP P h l f row col) (k : ∀ b o, P b → solid o → h.get? b = some o → h'.get? b = some o) : LocP P h' l f row col :=
  let ⟨dl, t, t1, t2, t3, a, b, p, q⟩ := x; ⟨dl, t, t1, t2, t3, k _ _ p (.inl ⟨76, rfl⟩) a, k _ _ q (.inr (.inr rfl)) b, p, q⟩
theorem CharP.keep {P : Addr → Prop} {h h' : Heap} {x : Addr} {g : Sg} (c : CharP P h x g) (k : ∀ b o, P b → solid o → h.get? b = some o → h'.get? b = some o) : CharP P h' x g :=
  let ⟨dx, l, t, t1, t2, k1, k2, a, b, p, q, c⟩ := c; ⟨dx, l, t, t1, t2, k1, k2, k _ _ p (.inl ⟨38, rfl⟩) a, k _ _ q (.inr (.inr rfl)) b, p, q, c.keep k⟩
theorem LocP.mono {P P' : Addr → Prop} {h : Heap} {l : Addr} {f : Str} {row col : Int} (x : LocP P h l f row col) (k : ∀ b o, h.get? b = some o → P b → P' b) : LocP P' h l f row col :=
  let ⟨dl, t, t1, t2, t3, a, b, p, q⟩ := x; ⟨dl, t, t1, t2, t3, a, b, k _ _ a p, k _ _ b q⟩
theorem CharP.mono {P P' : Addr → Prop} {h : Heap} {x : Addr} {g : Sg} (c : CharP P h x g) (k : ∀ b o, h.get? b = some o → P b → P' b) : CharP P' h x g :=
  let ⟨dx, l, t, t1, t2, k1, k2, a, b, p, q, c⟩ := c; ⟨dx, l, t, t1, t2, k1, k2, a, b, k _ _ a p, k _ _ b q, c.mono k⟩

theorem LocP.monoS {P P' : Addr → Prop} {h : Heap} {l : Addr} {f : Str} {row col : Int} (x : LocP P h l f row col) (k : ∀ b o, solid o → h.get? b = some o → P b → P' b) : LocP P' h l f row col :=
  let ⟨dl, t, t1, t2, t3, a, b, p, q⟩ := x; ⟨dl, t, t1, t2, t3, a, b, k _ _ (.inl ⟨76, rfl⟩) a p, k _ _ (.inr (.inr rfl)) b q⟩
theorem CharP.monoS {P P' : Addr → Prop} {h : Heap} {x : Addr} {g : Sg} (c : CharP P h x g) (k : ∀ b o, solid o → h.get? b = some o → P b → P' b) : CharP P' h x g :=
  let ⟨dx, l, t, t1, t2, k1, k2, a, b, p, q, c⟩ := c; ⟨dx, l, t, t1, t2, k1, k2, a, b, k _ _ (.inl ⟨38, rfl⟩) a p, k _ _ (.inr (.inr rfl)) b q, c.monoS k⟩

theorem memKeep {h₀ h : Heap} {news : List (Addr × Obj)} (D : Mem h₀ h [] news) : Keep h₀ h := fun b o e => D.keep b o e (by unfold away; simp)

def CharPost (s : Shared) (c : Str) (t : Tok) (l : Addr) (v : Value) (s' : Shared) : Prop :=
  ∃ x dx t1 t2 k1 k2 h' tk, v = .ref x ∧ s' = { s with heap := h', toks := tk } ∧ Keep s.heap h' ∧ s.heap.get? x = none ∧ s.heap.get? dx = none ∧ h'.get? x = some (instObj 38 dx) ∧ h'.get? dx = some (charD c t l t1 t2 k1 k2)
theorem char_end {s : Shared} {h : Heap} {tk : Nat} {news : List (Addr × Obj)} {c : Str} {t : Tok} {l x dx : Addr} {k1 k2 : Int} {t1 t2 : Tok} (D : Mem s.heap h [] news) (h1 : news[1]? = some (x, instObj 38 dx)) (h2 : news[2]? = some (dx, charD c t l t1 t2 k1 k2)) :
    CharPost s c t l (.ref x) { heap := h, gens := s.gens, drawn := s.drawn, toks := tk, os := s.os } :=
  ⟨x, dx, _, _, _, _, h, tk, rfl, rfl, memKeep D, (D.nw _ (List.mem_of_getElem? h1)).2, (D.nw _ (List.mem_of_getElem? h2)).2, D.at 1 _ _ h1, D.at 2 _ _ h2⟩
def LocPost (s : Shared) (f : Str) (row col : Int) (t t1 t2 t3 : Tok) (v : Value) (s' : Shared) : Prop :=
  ∃ x dl h' tk, v = .ref x ∧ s' = { s with heap := h', toks := tk } ∧ Keep s.heap h' ∧ s.heap.get? x = none ∧ s.heap.get? dl = none ∧ h'.get? x = some (locO dl f row col t t1 t2 t3) ∧ h'.get? dl = some (dictOf [] 0)
theorem loc_end {s : Shared} {h : Heap} {tk : Nat} {news : List (Addr × Obj)} {f : Str} {row col : Int} {t t1 t2 t3 : Tok} {x dl : Addr} (D : Mem s.heap h [] news) (h2 : news[2]? = some (dl, dictOf [] 0)) (h1 : news[1]? = some (x, locO dl f row col t t1 t2 t3)) :
    LocPost s f row col t t1 t2 t3 (.ref x) { heap := h, gens := s.gens, drawn := s.drawn, toks := tk, os := s.os } :=
  ⟨x, dl, h, tk, rfl, rfl, memKeep D, (D.nw _ (List.mem_of_getElem? h1)).2, (D.nw _ (List.mem_of_getElem? h2)).2, D.at 1 _ _ h1, D.at 2 _ _ h2⟩

section
local macro_rules | `(tactic| x_close) => `(tactic| ((rename PySem.W.X.Mem _ _ _ _ => D9); refine' char_end D9 ?h1 ?h2; (case h1 => exact rfl); (case h2 => with_unfolding_all exact rfl)))
theorem char_new20 {w : World} {s : Shared} {fr : Option (List Env)} {gd : Option (List Code)} {c : Str} {t : Tok} {l : Addr} :
   (hd.heap_39 w.params).In s.heap →
   wpAny (model PySem.Challenge.rw_rk0003_01.row.prog w) { handled := none, depth := 320, frames := fr, guards := gd, units := 100 } (call (.ref 38) [.str c t, .ref l] []) (CharPost s c t l) (fun _ _ => False) s := by
  k_fill
  intro KX
  x_run
end

section
local macro_rules | `(tactic| x_close) => `(tactic| ((rename PySem.W.X.Mem _ _ _ _ => D9); refine' loc_end D9 ?h2 ?h1; (case h2 => exact rfl); (case h1 => kernel_rfl)))
theorem loc_new20 {w : World} {s : Shared} {fr : Option (List Env)} {gd : Option (List Code)} {f : Str} {t t1 t2 t3 : Tok} {row col : Int} :
   (hd.heap_39 w.params).In s.heap →
   wpAny (model PySem.Challenge.rw_rk0003_01.row.prog w) { handled := none, depth := 320, frames := fr, guards := gd, units := 100 } (call (.ref 76) [.str f t, .int row t1, .int col t2, .int 1 t3] []) (LocPost s f row col t t1 t2 t3) (fun _ _ => False) s := by
  k_fill
  intro KX
  x_run
end

section
variable {w : World} {A : Around} {s : Shared} {E : Value → Shared → Prop} {Q : Value → Shared → Prop}
theorem char_new {c : Str} {t : Tok} {l : Addr} (K : (hd.heap_39 w.params).In s.heap) (hh : A.handled = none) (hd : A.depth ≤ 320) (hu : A.units ≤ 100) (h : ∀ v s', CharPost s c t l v s' → Q v s') :
    wpAny (model PySem.Challenge.rw_rk0003_01.row.prog w) A (call (.ref 38) [.str c t, .ref l] []) Q E s :=
  wpAny_mono (wp_room (char_new20 K) hh hd hu) h fun _ _ x => x.elim
theorem loc_new {f : Str} {t t1 t2 t3 : Tok} {row col : Int} (K : (hd.heap_39 w.params).In s.heap) (hh : A.handled = none) (hd : A.depth ≤ 320) (hu : A.units ≤ 100) (h : ∀ v s', LocPost s f row col t t1 t2 t3 v s' → Q v s') :
    wpAny (model PySem.Challenge.rw_rk0003_01.row.prog w) A (call (.ref 76) [.str f t, .int row t1, .int col t2, .int 1 t3] []) Q E s :=
  wpAny_mono (wp_room (loc_new20 K) hh hd hu) h fun _ _ x => x.elim
end
end Mine
namespace Mine

def num (ns : List Int) (i : Nat) : Int := ns.getD i 0
def fileOf (x : Int) : Str := if x = 0 then Str.ofString "a.c" else if x = 1 then Str.ofString "b.h" else Str.ofString "x"
def fileF (ns : List Int) (i : Nat) : Str := fileOf ((num ns i + (i : Int)).fmod 3)
def rowF (ns : List Int) (i : Nat) : Int := ((num ns i).fdiv 3 + 11 * (i : Int)).fmod 97
def colF (ns : List Int) (i : Nat) : Int := ((num ns i).fdiv 7 + 29 * (i : Int)).fmod 211

abbrev tup3 (f : Str) (row col : Int) (t1 t2 t3 : Tok) : Obj := { cls := .type "tuple", data := .seq #[.str f t1, .int row t2, .int col t3] }

theorem fmod3 (x : Int) : x.fmod 3 = 0 ∨ x.fmod 3 = 1 ∨ x.fmod 3 = 2 := by
  rw [Int.fmod_eq_emod_of_nonneg _ (by decide)]; omega
section
variable {w : World} {A : Around} {s : Shared} {base : Heap} {loose : List Str} {mean : ExcName → Option Value} {mg mb : Str → Option Value} {Q E : Value → Shared → Prop} {nums : Addr} {vs : List Value} {ns : List Int} {n : Nat} {i : Nat} {ii : Int} {ti : Tok}

theorem place_end {L' : Nat} {h₁ h' : Heap} {m' : Str → Option Value} {tk : Nat} {nw : List (Addr × Obj)} {D : Addr} {f : Str} {row col : Int} {t1 t2 t3 : Tok}
    (hL : s.heap.objs.size ≤ L') (O : Over base h₁) (k : Keep s.heap h₁) (F' : Fr base L' h' m') (N' : News base L' h' ((D, tup3 f row col t1 t2 t3) :: nw)) (hs : ∀ p ∈ (nums, listOf vs.toArray n) :: rest base L' [nums] h₁, p ∈ nw) (hD : ∀ p ∈ nw, p.1 ≠ D)
    (hl : h₁.get? nums = some (listOf vs.toArray n))
    (h : ∀ tup t1 t2 t3 h' tk', Keep s.heap h' → s.heap.get? tup = none → h'.get? tup = some (tup3 (fileF ns i) (rowF ns i) (colF ns i) t1 t2 t3) → Q (.ref tup) { s with heap := h', toks := tk' })
    (e1 : f = fileF ns i) (e2 : row = rowF ns i) (e3 : col = colF ns i) : Q (.ref D) { heap := h', gens := s.gens, drawn := s.drawn, toks := tk, os := s.os } := by
  subst e1 e2 e3
  have kb : KeepBut [L', nums] h₁ h' := rest_keep O F' N' fun p hp => .tail _ (hs p (.tail _ hp))
  have ks : Keep s.heap h' := fun b o e => by
    have hb : b ≠ L' := Nat.ne_of_lt (Nat.lt_of_lt_of_le (Heap.lt_size e) hL)
    by_cases hn : b = nums
    · subst hn
      have e2 := k _ _ e
      rw [hl] at e2
      cases e2
      exact (N' _ (.tail _ (hs _ (.head _)))).1
    · exact kb b o (by simp [hb, hn]) (k b o e)
  refine h D t1 t2 t3 h' tk ks ?_ (N' _ (.head _)).1
  cases q : s.heap.get? D with
  | none => rfl
  | some o =>
    exfalso
    have e := k _ _ q
    by_cases hn : D = nums
    · exact hD _ (hs _ (.head _)) hn.symm
    · have hDL : D ≠ L' := (N' _ (.head _)).2.1
      exact hD _ (hs _ (.tail _ (mem_rest hDL (by simpa using hn) (N' _ (.head _)).2.2 e))) rfl

theorem place_spec :
   (hd.heap_39 w.params).In base → Top hd.view_39 loose mean mg mb base → Over base s.heap → A.depth < recursionLimit → base.get? nums = none → s.heap.get? nums = some (listOf vs.toArray n) → IntsAre vs ns → ns.length ≤ 16 → i < 2 ^ 20 → ii = (i : Int) →
   (∀ tup t1 t2 t3 h' tk', Keep s.heap h' → s.heap.get? tup = none → h'.get? tup = some (tup3 (fileF ns i) (rowF ns i) (colF ns i) t1 t2 t3) → Q (.ref tup) { s with heap := h', toks := tk' }) →
   wpAny (model PySem.Challenge.rw_rk0003_01.row.prog w) A (call (.ref 98) [.int ii ti, .ref nums] []) Q E s := by
  k_fill
  intro KX T O hroom hnb hl hi hfit h1 hii h
  refine wpAny_call ?_
  refine enter (binds := [(Str.ofString "i", .int ii ti), (Str.ofString "nums", .ref nums)]) O KX T.nolimit rfl (by k_is) hroom (BindsTo.of_eq rfl) (locs rfl) (fun y => (lookup_if.trans (by rw [lookup_if, List.lookup_nil]))) ?_ rfl rfl rfl (by decide)
  intro L' h₁ hLn hL k F'
  have O' := Over.ofFr F'
  have hl' := k _ _ hl
  have hnL : nums ≠ L' := by rintro rfl; rw [hLn] at hl; cases hl
  have N' : News base L' h₁ ((nums, listOf vs.toArray n) :: rest base L' [nums] h₁) := by
    intro p hp
    rcases List.mem_cons.mp hp with rfl | hp
    · exact ⟨hl', hnL, hnb⟩
    · exact rest_news p hp
  have hoff : OwnOff (rest base L' [nums] h₁) [nums] := rest_ownOff
  have h0 : (0 : Int) ≤ ii := by omega
  have h2 : ii < 2 ^ 20 := by omega
  have hfit' : ns.length < 2 ^ 62 := by omega
  obtain ⟨own, hro⟩ : ∃ own, own = rest base L' [nums] h₁ := ⟨_, rfl⟩
  rw [← hro] at N' hoff
  k_unmd
  k_fold
  k_steps
  · rcases fmod3 (ns.getD ii.toNat 0 + ii) with h3 | h3 | h3 <;> rw [h3] <;> k_steps
    all_goals (
      (rename Fr base L' _ _ => F9); (rename News base L' _ _ => N9)
      k_unmd; k_unfold
      dsimp only
      refine place_end (i := i) hL O' k F9 N9 (fun p hp => .tail _ (hro ▸ hp)) (fun p hp => Nat.ne_of_lt (tb_ltOf (by assumption) p hp)) hl' h ?_ ?_ ?_
      all_goals (subst hii; simp only [Int.toNat_natCast] at h3 ⊢; first | rfl | (unfold fileF fileOf num; rw [h3]; rfl)))
  · have hz : num ns i = 0 := by unfold num; rw [List.getD_eq_getElem?_getD, List.getElem?_eq_none (by omega)]; rfl
    rcases fmod3 (0 + ii) with h3 | h3 | h3 <;> rw [h3] <;> k_steps
    all_goals (
      (rename Fr base L' _ _ => F9); (rename News base L' _ _ => N9)
      k_unmd; k_unfold
      dsimp only
      refine place_end (i := i) hL O' k F9 N9 (fun p hp => .tail _ (hro ▸ hp)) (fun p hp => Nat.ne_of_lt (tb_ltOf (by assumption) p hp)) hl' h ?_ ?_ ?_
      all_goals (subst hii; first | (unfold fileF fileOf; rw [hz, h3]; rfl) | (unfold rowF; rw [hz]) | (unfold colF; rw [hz])))
end
end Mine
namespace Mine

/-- tuples, as a comprehension makes them -/
def tupl (o : Obj) : Prop := o.cls = .type "tuple" ∧ ∃ its n, o.data = .seq its n
theorem tupl.solid {o : Obj} (x : tupl o) : solid o := .inr (.inl x.1)
abbrev Firm (h h' : Heap) : Prop := ∀ b o, tupl o → h.get? b = some o → h'.get? b = some o

def okB (gs : Bool) (N0 : Nat) (wr : List Addr) (b : Addr) (o : Obj) : Prop := (gs = true ∧ (solid o ∨ b ∉ wr)) ∨ (b ∉ wr ∧ (solid o ∨ b < N0))
theorem okB.low {gs : Bool} {N0 : Nat} {wr : List Addr} {b : Addr} {o : Obj} (h1 : b < N0) (h2 : b ∉ wr) : okB gs N0 wr b o := .inr ⟨h2, .inr h1⟩

structure Mv (gs : Bool) (N0 : Nat) (wr : List Addr) (s s' : Shared) : Prop where
  gens : gs = true → s'.gens = s.gens
  heap : ∀ b o, s.heap.get? b = some o → okB gs N0 wr b o → s'.heap.get? b = some o
  firm : Firm s.heap s'.heap
  bare : AllBare s.gens → AllBare s'.gens
  drawn : s'.drawn = s.drawn
  os : s'.os = s.os

/-- the consumer's objects stand -/
def Alive (N0 : Nat) (cw : List Addr) (h : Heap) : Prop := N0 ≤ h.objs.size ∧ ∀ b ∈ cw, ∃ o, h.get? b = some o

structure Iter (prog : Program) (w : World) (A : Around) (I : Addr) (n : Nat) (Item : Nat → Value → Heap → Prop) (St : Nat → Shared → Prop) (gs : Bool) (N0 : Nat) (wr cw : List Addr) : Prop where
  item : ∀ i (s : Shared) (Q : Option Value → Shared → Prop) (E : Value → Shared → Prop), i < n → St i s →
    (∀ v s', Item i v s'.heap → St (i + 1) s' → Mv gs N0 wr s s' → Q (some v) s') → wpAny (model prog w) A (pyNext (.ref I)) Q E s
  done : ∀ (s : Shared) (Q : Option Value → Shared → Prop) (E : Value → Shared → Prop), St n s → (∀ s', Mv gs N0 wr s s' → Q none s') → wpAny (model prog w) A (pyNext (.ref I)) Q E s
  self : ∀ i (s : Shared) (Q : Value → Shared → Prop) (E : Value → Shared → Prop), St i s → Q (.ref I) s → wpAny (model prog w) A (pyIter (.ref I)) Q E s
  frame : ∀ i (s : Shared) h' tk, St i s → KeepBut cw s.heap h' → (gs = false → Alive N0 cw h') → St i { s with heap := h', toks := tk }
  stable : ∀ i v h h', Item i v h → KeepBut cw h h' → Item i v h'

theorem Iter.ofWalks {prog : Program} {w : World} {A : Around} {I : Addr} {fp wr : List Addr} {n : Nat} {P : Nat → Value → Prop} {St : Nat → Heap → Prop} (W : Walks prog w A I fp wr n P St) (N0 : Nat) (cw : List Addr)
    (hcw : ∀ b ∈ fp, b ∉ cw) (hs : ∀ i h, St i h → ∀ b ∈ wr, ∀ o, h.get? b = some o → ¬ solid o) : Iter prog w A I n (fun i v _ => P i v) (fun i s => St i s.heap) true N0 wr cw where
  item := fun i s Q E hi st hQ => W.item i s Q E hi st fun v h' tk hP st' hk => hQ v _ hP st' ⟨fun _ => rfl, fun b o e hb => hk b o (fun hm => hb.elim (fun y => y.2.elim (hs i _ st b hm o e) fun z => z hm) fun y => y.1 hm) e, fun b o so e => hk b o (fun hm => hs i _ st b hm o e so.solid) e, id, rfl, rfl⟩
  done := fun s Q E st hQ => W.done s Q E st fun h' tk hk => hQ _ ⟨fun _ => rfl, fun b o e hb => hk b o (fun hm => hb.elim (fun y => y.2.elim (hs n _ st b hm o e) fun z => z hm) fun y => y.1 hm) e, fun b o so e => hk b o (fun hm => hs n _ st b hm o e so.solid) e, id, rfl, rfl⟩
  self := fun i s Q E st hQ => W.self i s Q E st hQ
  frame := fun i s h' _ st k _ => W.frame i s.heap h' st fun b hb o e => k b o (hcw b hb) e
  stable := fun _ _ _ _ x _ => x

section
variable {prog : Program} {w : World} {A : Around} {s : Shared} {env : Env} {base : Heap}

/-- what a turn of a for hands on -/
structure TurnEnd (base : Heap) (L : Addr) (cw : List Addr) (J : (Str → Option Value) → Heap → Prop) (s₁ : Shared) (f : Flow) (s₂ : Shared) : Prop where
  flow : f = .next
  st : ∃ h' tk m₂, s₂ = { s₁ with heap := h', toks := tk } ∧ KeepBut (L :: cw) s₁.heap h' ∧ Fr base L h' m₂ ∧ J m₂ h'
theorem TurnEnd.mk' {base h' : Heap} {L : Addr} {cw : List Addr} {J : (Str → Option Value) → Heap → Prop} {s₁ : Shared} {tk : Nat} {m₂ : Str → Option Value} (k : KeepBut (L :: cw) s₁.heap h') (F : Fr base L h' m₂) (j : J m₂ h') :
    TurnEnd base L cw J s₁ .next { heap := h', gens := s₁.gens, drawn := s₁.drawn, toks := tk, os := s₁.os } := ⟨rfl, h', tk, m₂, rfl, k, F, j⟩

/-- a for over an iterator, told of heaps -/
theorem for_iter {R : Result → Shared → Prop} {x : Str} {px : Pos} {body : List Stmt} {I : Addr} {n N0 : Nat} {gs : Bool} {Item : Nat → Value → Heap → Prop} {St : Nat → Shared → Prop} {wr cw : List Addr} {m : Str → Option Value}
    (W : Iter prog w A I n Item St gs N0 wr (env.locals :: cw)) (hgs : gs = true) (hx : env.kindOf x = some .local)
    (hp : (env.scope.kind == .class || (env.scope.kind == .module && env.locals != env.globals)) = false)
    (hLw : env.locals ∉ wr) (hLN : env.locals < N0) (hwr : ∀ b ∈ wr, base.get? b = none) (hst : St 0 s) (F : Fr base env.locals s.heap m)
    (J : Nat → (Str → Option Value) → Heap → Prop) (h0 : J 0 m s.heap)
    (hJ : ∀ i m h h', (∃ mm, h.Ns env.locals mm) → (∀ b o, b ≠ env.locals → okB gs N0 wr b o → h.get? b = some o → h'.get? b = some o) → J i m h → J i m h')
    (step : ∀ i v m₁ (s₁ : Shared), i < n → Item i v s₁.heap → St (i + 1) s₁ → J i m₁ s₁.heap → Fr base env.locals s₁.heap (fun y => if y = x then some v else m₁ y) →
      wpAny (model prog w) A (execs body env) (TurnEnd base env.locals cw (J (i + 1)) s₁) (fun _ _ => False) s₁)
    (hR : ∀ s' m', Fr base env.locals s'.heap m' → J n m' s'.heap → (gs = true → s'.gens = s.gens) → (AllBare s.gens → AllBare s'.gens) → s'.drawn = s.drawn → s'.os = s.os → R (.ok .next) s') :
    codeAny (model prog w) A (.forLoop (.Name x px) (.ref I) body [] env) R s := by
  have fr : ∀ {h h' : Heap} {m'}, Fr base env.locals h m' → (∀ b o, h.get? b = some o → okB gs N0 wr b o → h'.get? b = some o) → Fr base env.locals h' m' := fun {h h' m'} F' k =>
    ⟨F'.ns.at' fun o e => k _ o e (okB.low hLN hLw), fun b o e => k b o (F'.keep b o e) (okB.low (Nat.lt_trans (Nat.lt_of_lt_of_le (Heap.lt_size e) F'.above) hLN) fun hm => by rw [hwr b hm] at e; cases e), F'.above⟩
  refine codeAny_forLoop
    (fun k s' => ∃ m' i, St i s' ∧ Fr base env.locals s'.heap m' ∧ J i m' s'.heap ∧ i ≤ n ∧ k = n + 1 - i ∧ (gs = true → s'.gens = s.gens) ∧ (AllBare s.gens → AllBare s'.gens) ∧ s'.drawn = s.drawn ∧ s'.os = s.os) ?_ (n + 1)
    ⟨m, 0, hst, F, h0, Nat.zero_le _, rfl, fun _ => rfl, id, rfl, rfl⟩
  rintro k s' ⟨m', i, hst', F', hJ', hi, rfl, hg', hb', hd', ho'⟩
  by_cases hlt : i < n
  · refine W.item i _ _ _ hlt hst' fun v s₁ hItem hst₁ hm => ?_
    have F₁ := fr F' hm.heap
    have hJ₁ : J i m' s₁.heap := hJ _ _ _ _ ⟨_, F'.ns⟩ (fun b o _ hs e => hm.heap b o e hs) hJ'
    refine wpAny_assign_Name (wpAny_storeName_local hx F₁.ns (fun h₂ hn₂ hs₂ => ?_) hp)
    have F₂ := F₁.set hn₂ hs₂
    have kb : KeepBut (env.locals :: cw) s₁.heap h₂ := fun b o hb e => (hs₂.2 b (fun q => hb (q ▸ List.mem_cons_self))).trans e
    have hJ₂ : J i m' h₂ := hJ _ _ _ _ ⟨_, F₁.ns⟩ (fun b o hb _ e => (hs₂.2 b hb).trans e) hJ₁
    have hst₂ := W.frame (i + 1) s₁ h₂ (s₁.toks + 1) hst₁ kb (fun q => by rw [hgs] at q; cases q)
    have hItem₂ := W.stable _ _ _ _ hItem kb
    refine wpAny_mono (step i v m' _ hlt hItem₂ hst₂ hJ₂ F₂) (fun f s₃ h₃ => ?_) fun _ _ e => e.elim
    obtain ⟨rfl, h₃', tk₃, m₂, rfl, kb₃, F₃, hJ₃⟩ := h₃
    exact ⟨n + 1 - (i + 1), by omega, m₂, i + 1, W.frame (i + 1) _ h₃' tk₃ hst₂ kb₃ (fun q => by rw [hgs] at q; cases q), F₃, hJ₃, hlt, rfl, fun hg => (hm.gens hg).trans (hg' hg), fun hb => hm.bare (hb' hb), hm.drawn.trans hd', hm.os.trans ho'⟩
  · have hin : i = n := by omega
    subst hin
    refine W.done _ _ _ hst' fun s₁ hm => wpAny_execs_nil ?_
    exact hR s₁ m' (fr F' hm.heap) (hJ _ _ _ _ ⟨_, F'.ns⟩ (fun b o _ hs e => hm.heap b o e hs) hJ') (fun hg => (hm.gens hg).trans (hg' hg)) (fun hb => hm.bare (hb' hb)) (hm.drawn.trans hd') (hm.os.trans ho')

abbrev lstO (ys : List Value) : Obj := LCg.lst ys

/-- what an element's reckoning hands on -/
structure ElmEnd (L : Addr) (El : Value → Heap → Prop) (s₃ : Shared) (y : Value) (s₄ : Shared) : Prop where
  st : ∃ h' tk', s₄ = { s₃ with heap := h', toks := tk' } ∧ KeepBut [L] s₃.heap h' ∧ (∀ m, s₃.heap.Ns L m → h'.Ns L m) ∧ El y h'
theorem ns_unique {h : Heap} {L : Addr} {m m' : Str → Option Value} (x : h.Ns L m) (y : h.Ns L m') : m = m' := by
  obtain ⟨o, es, ep, e, d, _, f⟩ := x
  obtain ⟨o', es', ep', e', d', _, f'⟩ := y
  rw [e] at e'; cases e'
  rw [d] at d'; cases d'
  funext z
  rw [← f z, ← f' z]
theorem ElmEnd.mk' {base : Heap} {L : Addr} {El : Value → Heap → Prop} {s₃ : Shared} {y : Value} {h' : Heap} {tk : Nat} {m : Str → Option Value} (F : Fr base L s₃.heap m) (F' : Fr base L h' m) (k : KeepBut [L] s₃.heap h') (e : El y h') :
    ElmEnd L El s₃ y { heap := h', gens := s₃.gens, drawn := s₃.drawn, toks := tk, os := s₃.os } := ⟨h', tk, rfl, k, fun _ x => ns_unique F.ns x ▸ F'.ns, e⟩

/-- the block of a list comprehension over an iterator -/
theorem comp_iter {elt iter : Expr} {x : Str} {px : Pos} {scope : Scope} {cl : List (Str × Addr)} {pos : Pos} {E : Value → Shared → Prop} {I : Addr} {n : Nat} {gs : Bool} {wr : List Addr} {Item : Nat → Value → Heap → Prop} {El : Nat → Value → Heap → Prop} {RR : Value → Addr → Result → Shared → Prop}
    (W : ∀ D C h₁ tk, Keep s.heap h₁ → s.heap.get? D = none → s.heap.get? C = none → (∃ o, h₁.get? D = some o) → (∃ o, h₁.get? C = some o) → ∃ Item' St, Iter prog w A I n Item' St gs h₁.objs.size wr [C, D, env.locals] ∧ (∀ i v h, Item' i v h → Item i v h) ∧ St 0 { s with heap := h₁, toks := tk })
    (hsz : n ≤ sizeLine) (hwr : ∀ b ∈ wr, b < s.heap.objs.size) (hLn : ∃ m, s.heap.Ns env.locals m) (hLw : env.locals ∉ wr)
    (hcell : ∀ y ∈ scope.names, y.2 ≠ .cell) (hkind : scope.kind = .function) (hx : scope.names.lookup x = some .local)
    (hEl : ∀ i y h h', Firm h h' → El i y h → El i y h')
    (elm : ∀ i v C (s₃ : Shared) m₃, i < n → Item i v s₃.heap → s.heap.get? C = none → s₃.heap.Ns C m₃ → m₃ x = some v → (∀ b o, b ∉ env.locals :: wr → s.heap.get? b = some o → s₃.heap.get? b = some o) → (∀ m, s.heap.Ns env.locals m → s₃.heap.Ns env.locals m) →
      wpAny (model prog w) A (eval elt (compEnvC scope cl C env)) (ElmEnd env.locals (El i) s₃) (fun _ _ => False) s₃)
    (hRR : ∀ D C ys (s' : Shared) m', s.heap.get? D = none → s.heap.get? C = none → C ≠ D → s'.heap.get? D = some (lstO ys) → s'.heap.Ns C m' → ys.length = n → (∀ j y, ys[j]? = some y → El j y s'.heap) →
      (∀ b o, b ∉ env.locals :: wr → s.heap.get? b = some o → s'.heap.get? b = some o) → (∀ m, s.heap.Ns env.locals m → s'.heap.Ns env.locals m) → (gs = true → s'.gens = s.gens) → (AllBare s.gens → AllBare s'.gens) → s'.drawn = s.drawn → s'.os = s.os → RR (.ref D) C (.ok .next) s') :
    wpAny (model prog w) A (newList []) (fun acc s₃ => wpAny (model prog w) A (newFunctionEnv scope env.globals cl [] env.qual none .none (some env)) (fun cenv s₄ =>
      codeAny (model prog w) A (.compStart (.ListComp elt [⟨.Name x px, iter, [], 0⟩] scope pos) 0 (.ref I) acc { cenv with scope := relabel scope env }) (RR acc cenv.locals) s₄) E s₃) E s := by
  have hLs : env.locals < s.heap.objs.size := by obtain ⟨m, x⟩ := hLn; exact x.lt
  refine wpAny_newObj_type (wpAny_newFunctionEnv hcell (by intro y hy; simp at hy) (fun h₁ hns₁ hsb₁ => ?_) hkind)
  dsimp only at hns₁ hsb₁ ⊢
  generalize hH2 : s.heap.push { cls := .type "list", dict := none, data := .seq ([] : List Value).toArray } = H2 at hns₁ hsb₁ ⊢
  have hC : H2.objs.size = s.heap.objs.size + 1 := by rw [← hH2, Heap.size_push]
  have hCD : H2.objs.size ≠ s.heap.objs.size := by rw [hC]; exact Nat.succ_ne_self _
  have below : ∀ b, b < s.heap.objs.size → b ≠ H2.objs.size ∧ b ≠ s.heap.objs.size := fun b hb => ⟨by rw [hC]; exact Nat.ne_of_lt (Nat.lt_succ_of_lt hb), Nat.ne_of_lt hb⟩
  have old : Keep s.heap h₁ := fun b o e => hsb₁.extBut b o (below b (Heap.lt_size e)).1 (Heap.get?_push_of_some _ (hH2 ▸ Heap.get?_push_of_some _ e))
  have hacc : h₁.get? s.heap.objs.size = some (lstO []) := hsb₁.extBut _ _ (Ne.symm hCD) (Heap.get?_push_of_some _ (hH2 ▸ Heap.get?_push_size _ rfl))
  have hD0 : s.heap.get? s.heap.objs.size = none := Heap.get?_none_of_le (Nat.le_refl _)
  have hC0 : s.heap.get? H2.objs.size = none := Heap.get?_none_of_le (by rw [hC]; exact Nat.le_succ _)
  have hDlt : s.heap.objs.size < h₁.objs.size := Heap.lt_size hacc
  have hClt : H2.objs.size < h₁.objs.size := hns₁.lt
  obtain ⟨Item', St, W, hIt, hst⟩ := W s.heap.objs.size H2.objs.size h₁ (s.toks + ([] : List (Str × Value)).length) old hD0 hC0 ⟨_, hacc⟩ (let ⟨o, _, _, e, _⟩ := hns₁; ⟨o, e⟩)
  have hDw : s.heap.objs.size ∉ wr := fun hm => Nat.lt_irrefl _ (hwr _ hm)
  have hN0 : h₁.objs.size = H2.objs.size + 1 := by rw [hsb₁.1, Heap.size_push]
  have nsO : ∀ {h' : Heap} {b : Addr} {m'}, h'.Ns b m' → ∃ o, h'.get? b = some o := fun ⟨o, _, _, e, _⟩ => ⟨o, e⟩
  have big : ∀ {h' : Heap} {m'}, h'.Ns H2.objs.size m' → (∃ o, h'.get? s.heap.objs.size = some o) → (∀ m, s.heap.Ns env.locals m → h'.Ns env.locals m) → (gs = false → Alive h₁.objs.size [H2.objs.size, s.heap.objs.size, env.locals] h') := fun {h' m'} x y z _ => ⟨by rw [hN0]; exact x.lt, fun b hb => by
    rcases List.mem_cons.mp hb with rfl | hb
    · exact nsO x
    rcases List.mem_cons.mp hb with rfl | hb
    · exact y
    · obtain ⟨m, q⟩ := hLn
      rw [List.mem_singleton.mp hb]; exact nsO (z m q)⟩
  have hCw : H2.objs.size ∉ wr := fun hm => by have := hwr _ hm; rw [hC] at this; exact Nat.lt_irrefl _ (Nat.lt_of_succ_lt this)
  have loop : ∀ s₃ : Shared, s₃ = { s with heap := h₁, toks := s.toks + ([] : List (Str × Value)).length } →
      codeAny (model prog w) A (.compLoop (.ListComp elt [⟨.Name x px, iter, [], 0⟩] scope pos) 0 (.ref I) (.ref s.heap.objs.size) (compEnvC scope cl H2.objs.size env))
        (RR (.ref s.heap.objs.size) H2.objs.size) s₃ := by
    rintro s₃ rfl
    refine codeAny_compLoop_tests
      (fun k (s' : Shared) => ∃ i ys m', i ≤ n ∧ k = n + 1 - i ∧ ys.length = i ∧ St i s' ∧ s'.heap.Ns H2.objs.size m' ∧ s'.heap.get? s.heap.objs.size = some (lstO ys) ∧ (∀ j y, ys[j]? = some y → El j y s'.heap) ∧
        (∀ b o, b ∉ env.locals :: wr → s.heap.get? b = some o → s'.heap.get? b = some o) ∧ (∀ m, s.heap.Ns env.locals m → s'.heap.Ns env.locals m) ∧ (gs = true → s'.gens = s.gens) ∧ (AllBare s.gens → AllBare s'.gens) ∧ s'.drawn = s.drawn ∧ s'.os = s.os) ?_ (n + 1)
      ⟨0, [], _, Nat.zero_le _, rfl, rfl, hst, hns₁, hacc, fun j y hj => by simp at hj, fun b o _ e => old b o e, fun m x => x.keeps old, fun _ => rfl, id, rfl, rfl⟩
    rintro k s' ⟨i, ys, m', hi, rfl, hyl, hst', hn', hD', hE', hk', hns', hg', hb', hd', ho'⟩
    by_cases hlt : i < n
    · refine W.item i _ _ _ hlt hst' fun v s₁ hItem hst₁ hm => ?_
      have hn₁ := hn'.at' fun o e => hm.heap _ o e (okB.low hClt hCw)
      have hD₁ := hm.heap _ _ hD' (okB.low hDlt hDw)
      have hk₁ : ∀ b o, b ∉ env.locals :: wr → s.heap.get? b = some o → s₁.heap.get? b = some o := fun b o hb e => hm.heap b o (hk' b o hb e) (okB.low (Nat.lt_trans (Heap.lt_size e) hDlt) fun q => hb (List.mem_cons_of_mem _ q))
      have hns₁ : ∀ m, s.heap.Ns env.locals m → s₁.heap.Ns env.locals m := fun m x => (hns' m x).at' fun o e => hm.heap _ o e (okB.low (Nat.lt_trans hLs hDlt) hLw)
      refine wpAny_assign_Name (wpAny_storeName_local (lookup_relabel_local hx) hn₁ (fun h₂ hn₂ hs₂ => ?_) (by simp [compEnvC, relabel, hkind]))
      refine wpAny_tests_nil ?_
      simp only [if_true]
      have kb : KeepBut [H2.objs.size, s.heap.objs.size, env.locals] s₁.heap h₂ := fun b o hb e => (hs₂.2 b (fun q => hb (by rw [q]; exact List.mem_cons_self))).trans e
      have hItem₂ := W.stable _ _ _ _ hItem kb
      have hD₂ : h₂.get? s.heap.objs.size = some (lstO ys) := (hs₂.2 _ (Ne.symm hCD)).trans hD₁
      have hk₂ : ∀ b o, b ∉ env.locals :: wr → s.heap.get? b = some o → h₂.get? b = some o := fun b o hb e => (hs₂.2 b (below b (Heap.lt_size e)).1).trans (hk₁ b o hb e)
      have hns₂ : ∀ m, s.heap.Ns env.locals m → h₂.Ns env.locals m := fun m x => (hns₁ m x).sameBut hs₂ (below _ hLs).1
      have hst₂ := W.frame (i + 1) s₁ h₂ (s₁.toks + 1) hst₁ kb (big hn₂ ⟨_, hD₂⟩ hns₂)
      have hE₂ : ∀ j y, ys[j]? = some y → El j y h₂ := fun j y hj => hEl _ _ _ _ (fun b o so e => (hs₂.2 b (by
          rintro rfl
          obtain ⟨oC, es, ep, eC, dC, _⟩ := hn₁
          have e' : s₁.heap.get? H2.objs.size = some o := e
          rw [e'] at eC; cases eC
          obtain ⟨its, k, dq⟩ := so.2
          rw [dC] at dq; cases dq)).trans e) (hEl _ _ _ _ hm.firm (hE' j y hj))
      refine wpAny_mono (elm i v H2.objs.size { s₁ with heap := h₂, toks := s₁.toks + 1 } _ hlt (hIt _ _ _ hItem₂) hC0 hn₂ (by simp) hk₂ hns₂) (fun y s₄ he => ?_) fun _ _ e => e.elim
      obtain ⟨h₄, tk₄, rfl, hk₄, hns₄, hy₄⟩ := he.st
      have hDnL : s.heap.objs.size ∉ [env.locals] := fun q => (below _ hLs).2 (List.mem_singleton.mp q).symm
      have hCnL : H2.objs.size ∉ [env.locals] := fun q => (below _ hLs).1 (List.mem_singleton.mp q).symm
      have hst₄ := W.frame (i + 1) _ h₄ tk₄ hst₂ (hk₄.mono (by intro b hb; rw [List.mem_singleton.mp hb]; simp)) (big (hn₂.at' fun o e => hk₄ _ o hCnL e) ⟨_, hk₄ _ _ hDnL hD₂⟩ fun m x => hns₄ m (hns₂ m x))
      refine append_at (hsz := by show ys.toArray.size ≤ sizeLine; rw [List.size_toArray, hyl]; exact Nat.le_trans hi hsz) (hk₄ _ _ hDnL hD₂) fun h₅ hs₅ hD₅ => ?_
      have hfirm4 : Firm h₂ h₄ := fun b o so e => hk₄ b o (fun q => by
        obtain ⟨m, x⟩ := hLn
        obtain ⟨oL, es, ep, eL, dL, _⟩ := hns₂ m x
        rw [List.mem_singleton.mp q] at e
        rw [e] at eL; cases eL
        obtain ⟨its, k, dq⟩ := so.2
        rw [dL] at dq; cases dq) e
      have hfirm : Firm h₄ h₅ := fun b o so e => hs₅.extBut b o (by
        rintro rfl
        rw [hk₄ _ _ hDnL hD₂] at e; cases e
        exact absurd so.1 (by simp)) e
      refine ⟨n + 1 - (i + 1), by omega, i + 1, ys ++ [y], _, hlt, rfl, by rw [List.length_append, List.length_singleton, hyl], W.frame (i + 1) _ h₅ tk₄ hst₄ (fun b o hb e => hs₅.extBut b o (fun q => hb (by rw [q]; simp)) e) (big ((hn₂.at' fun o e => hk₄ _ o hCnL e).sameBut hs₅ hCD) ⟨_, hD₅⟩ fun m x => (hns₄ m (hns₂ m x)).sameBut hs₅ (below _ hLs).2),
        (hn₂.at' fun o e => hk₄ _ o hCnL e).sameBut hs₅ hCD, hD₅.trans (congrArg some (LCg.lst_snoc ys y)), fun j y' hj => ?_, fun b o hb e => hs₅.extBut b o (below b (Heap.lt_size e)).2 (hk₄ _ _ (fun q => hb (by rw [List.mem_singleton.mp q]; exact List.mem_cons_self)) (hk₂ b o hb e)), fun m x => (hns₄ m (hns₂ m x)).sameBut hs₅ (below _ hLs).2, fun hg => (hm.gens hg).trans (hg' hg), fun hb => hm.bare (hb' hb), hm.drawn.trans hd', hm.os.trans ho'⟩
      rw [List.getElem?_append] at hj
      split at hj
      · exact hEl _ _ _ _ hfirm (hEl _ _ _ _ hfirm4 (hE₂ j y' hj))
      · rename_i hge
        have : j = i := by
          rcases Nat.lt_or_ge (j - ys.length) 1 with h | h
          · omega
          · rw [List.getElem?_eq_none (by simpa using h)] at hj; cases hj
        subst this
        rw [hyl, Nat.sub_self] at hj
        cases hj
        exact hEl _ _ _ _ hfirm hy₄
    · obtain rfl : i = n := Nat.le_antisymm hi (Nat.not_lt.mp hlt)
      refine W.done _ _ _ hst' fun s₁ hm => ?_
      exact hRR _ _ ys s₁ m' hD0 hC0 hCD (hm.heap _ _ hD' (okB.low hDlt hDw)) (hn'.at' fun o e => hm.heap _ o e (okB.low hClt hCw)) hyl (fun j y hj => hEl _ _ _ _ hm.firm (hE' j y hj))
        (fun b o hb e => hm.heap b o (hk' b o hb e) (okB.low (Nat.lt_trans (Heap.lt_size e) hDlt) fun q => hb (List.mem_cons_of_mem _ q))) (fun m x => (hns' m x).at' fun o e => hm.heap _ o e (okB.low (Nat.lt_trans hLs hDlt) hLw)) (fun hg => (hm.gens hg).trans (hg' hg)) (fun hb => hm.bare (hb' hb)) (hm.drawn.trans hd') (hm.os.trans ho')
  exact codeAny_compStart_list (loop _ rfl) (W.self 0 _ _ _ hst (loop _ rfl))

/-- what a comprehension over an iterator asks -/
structure CompAt (prog : Program) (w : World) (A : Around) (env : Env) (elt : Expr) (x : Str) (scope : Scope) (cl : List (Str × Addr)) (I : Addr) (n : Nat) (gs : Bool) (wr : List Addr) (Item El : Nat → Value → Heap → Prop) (s : Shared) : Prop where
  it : ∀ D C h₁ tk, Keep s.heap h₁ → s.heap.get? D = none → s.heap.get? C = none → (∃ o, h₁.get? D = some o) → (∃ o, h₁.get? C = some o) → ∃ Item' St, Iter prog w A I n Item' St gs h₁.objs.size wr [C, D, env.locals] ∧ (∀ i v h, Item' i v h → Item i v h) ∧ St 0 { s with heap := h₁, toks := tk }
  sz : n ≤ sizeLine
  low : ∀ b ∈ wr, b < s.heap.objs.size
  ls : ∃ m, s.heap.Ns env.locals m
  lw : env.locals ∉ wr
  el : ∀ i y h h', Firm h h' → El i y h → El i y h'
  elm : ∀ i v C (s₃ : Shared) m₃, i < n → Item i v s₃.heap → s.heap.get? C = none → s₃.heap.Ns C m₃ → m₃ x = some v → (∀ b o, b ∉ env.locals :: wr → s.heap.get? b = some o → s₃.heap.get? b = some o) → (∀ m, s.heap.Ns env.locals m → s₃.heap.Ns env.locals m) →
      wpAny (model prog w) A (eval elt (compEnvC scope cl C env)) (ElmEnd env.locals (El i) s₃) (fun _ _ => False) s₃

/-- what it hands on -/
structure CompOut (L : Addr) (gs : Bool) (wr : List Addr) (El : Nat → Value → Heap → Prop) (n : Nat) (s : Shared) (D : Addr) (ys : List Value) (s' : Shared) : Prop where
  new : s.heap.get? D = none
  at' : s'.heap.get? D = some (lstO ys)
  len : ys.length = n
  el : ∀ j y, ys[j]? = some y → El j y s'.heap
  keep : KeepBut (L :: wr) s.heap s'.heap
  ns : ∀ m, s.heap.Ns L m → s'.heap.Ns L m
  gens : gs = true → s'.gens = s.gens
  bare : AllBare s.gens → AllBare s'.gens
  drawn : s'.drawn = s.drawn
  os : s'.os = s.os

theorem firm_sameBut {h h' : Heap} {C : Addr} {m : Str → Option Value} (hn : h.Ns C m) (hs : Heap.SameBut C h h') : Firm h h' := fun b o so e => (hs.2 b (by
  rintro rfl
  obtain ⟨oC, es, ep, eC, dC, _⟩ := hn
  rw [e] at eC; cases eC
  obtain ⟨its, k, dq⟩ := so.2
  rw [dC] at dq; cases dq)).trans e

theorem ListComp_it {elt iter : Expr} {x : Str} {px : Pos} {scope : Scope} {cl : List (Str × Addr)} {pos : Pos} {Q : Value → Shared → Prop} {E : Value → Shared → Prop}
    (hclos : closureFor scope env = pure cl) (hcell : ∀ y ∈ scope.names, y.2 ≠ .cell) (hkind : scope.kind = .function)
    (hnames : ∀ y ∈ scope.names, y.2 = .local → scope.names.lookup y.1 = some .local) (hx : scope.names.lookup x = some .local)
    (h : wpAny (model prog w) A (eval iter env) (fun xv s₁ => wpAny (model prog w) A (pyIter xv) (fun it s₂ => ∃ I n gs wr Item El, it = .ref I ∧ CompAt prog w A env elt x scope cl I n gs wr Item El s₂ ∧
      ∀ D ys s', CompOut env.locals gs wr El n s₂ D ys s' → Q (.ref D) s') E s₁) E s)
    (hs : ∀ x, foldedSetIterable iter env x = pure x := by intro _; rfl) :
    wpAny (model prog w) A (eval (.ListComp elt [⟨.Name x px, iter, [], 0⟩] scope pos) env) Q E s := by
  rw [eval_ListComp]
  refine wpAny_comprehension_free (use := none) rfl hs hclos hkind hnames (wpAny_mono h (fun xv s₁ h₁ => wpAny_mono h₁ (fun it s₂ h₂ => ?_) fun _ _ e => e) fun _ _ e => e)
  obtain ⟨I, n, gs, wr, Item, El, rfl, P, fin⟩ := h₂
  refine comp_iter P.it P.sz P.low P.ls P.lw hcell hkind hx P.el P.elm fun D C ys s' m' hD hC hCD hD' hn' hl hE hk hns hg hb hd ho => ?_
  have hLC : env.locals ≠ C := by rintro rfl; obtain ⟨m, o, _, _, e, _⟩ := P.ls; rw [hC] at e; cases e
  refine ⟨m', hn', fun h'' hs'' => fin D ys _ ⟨hD, (hs''.2 D (Ne.symm hCD)).trans hD', hl, fun j y hj => P.el _ _ _ _ (firm_sameBut hn' hs'') (hE j y hj), fun b o hb e => ?_, fun m x => (hns m x).sameBut hs'' hLC, hg, hb, hd, ho⟩⟩
  exact (hs''.2 b (by rintro rfl; rw [hC] at e; cases e)).trans (hk b o hb e)

theorem Assign_ListComp_it {elt iter : Expr} {x y : Str} {px py : Pos} {scope : Scope} {cl : List (Str × Addr)} {pos spos : Pos} {Q : Flow → Shared → Prop} {E : Value → Shared → Prop}
    (hsw : swapsWith (.ListComp elt [⟨.Name x px, iter, [], 0⟩] scope pos) (some (.Name y py)) spos.line env = pure true)
    (hclos : closureFor scope env = pure cl) (hcell : ∀ z ∈ scope.names, z.2 ≠ .cell) (hkind : scope.kind = .function)
    (hnames : ∀ z ∈ scope.names, z.2 = .local → scope.names.lookup z.1 = some .local) (hx : scope.names.lookup x = some .local)
    (hy : env.kindOf y = some .local) (hp : (env.scope.kind == .class || (env.scope.kind == .module && env.locals != env.globals)) = false)
    (h : wpAny (model prog w) A (eval iter env) (fun xv s₁ => wpAny (model prog w) A (pyIter xv) (fun it s₂ => ∃ I n gs wr Item El m, it = .ref I ∧ CompAt prog w A env elt x scope cl I n gs wr Item El s₂ ∧ env.locals ∉ wr ∧ s₂.heap.Ns env.locals m ∧
      ∀ D ys s' (h' : Heap) tk, CompOut env.locals gs wr El n s₂ D ys s' → h'.Ns env.locals (fun z => if z = y then some (.ref D) else m z) → KeepBut (env.locals :: wr) s₂.heap h' → h'.get? D = some (lstO ys) → (∀ j y, ys[j]? = some y → El j y h') → Q .next { s' with heap := h', toks := tk }) E s₁) E s)
    (hs : ∀ x, foldedSetIterable iter env x = pure x := by intro _; rfl) :
    wpAny (model prog w) A (exec (.Assign [.Name y py] (.ListComp elt [⟨.Name x px, iter, [], 0⟩] scope pos) spos) env) Q E s := by
  rw [exec_Assign_Name_used _ _ _ _ hsw]
  refine wpAny_bind (wpAny_standAt (wpAny_bind ?_))
  show wpAny _ A (do let _ ← comprehension (.ListComp elt [⟨.Name x px, iter, [], 0⟩] scope pos) scope env _ (newList []) false (eval iter env) (some (assign (.Name y py) env))) _ _ s
  refine wpAny_bind (wpAny_mono (wpAny_comprehension_free (use := some (assign (.Name y py) env)) (Q := fun _ s' => Q .next s') rfl hs hclos hkind hnames
    (wpAny_mono h (fun xv s₁ h₁ => wpAny_mono h₁ (fun it s₂ h₂ => ?_) fun _ _ e => e) fun _ _ e => e)) (fun _ s' hq => wpAny_pure (wpAny_pure hq)) fun _ _ e => e)
  obtain ⟨I, n, gs, wr, Item, El, m, rfl, P, hLw, hnL, fin⟩ := h₂
  refine comp_iter P.it P.sz P.low P.ls P.lw hcell hkind hx P.el P.elm fun D C ys s' m' hD hC hCD hD' hn' hl hE hk hns hg hb hd ho => ?_
  have out : CompOut env.locals gs wr El n s₂ D ys s' := ⟨hD, hD', hl, hE, hk, hns, hg, hb, hd, ho⟩
  have hLC : env.locals ≠ C := by rintro rfl; obtain ⟨o, _, _, e, _⟩ := hnL; rw [hC] at e; cases e
  have hLD : env.locals ≠ D := by rintro rfl; obtain ⟨o, _, _, e, _⟩ := hnL; rw [hD] at e; cases e
  have hn₁ : s'.heap.Ns env.locals m := hns m hnL
  show wpAny _ A (assign (.Name y py) env (.ref D)) _ _ _
  refine wpAny_assign_Name (wpAny_storeName_local hy hn₁ (fun h₂ hn₂ hs₂ => ?_) hp)
  refine ⟨m', hn'.sameBut hs₂ (Ne.symm hLC), fun h'' hs'' => fin D ys s' h'' _ out (hn₂.sameBut hs'' hLC) (fun b o hb e => ?_) ((hs''.2 D (Ne.symm hCD)).trans ((hs₂.2 D (Ne.symm hLD)).trans hD')) (fun j y hj => P.el _ _ _ _ (firm_sameBut (hn'.sameBut hs₂ (Ne.symm hLC)) hs'') (P.el _ _ _ _ (firm_sameBut hn₁ hs₂) (hE j y hj)))⟩
  have hb' : b ≠ env.locals ∧ b ∉ wr := by simpa using hb
  exact (hs''.2 b (by rintro rfl; rw [hC] at e; cases e)).trans ((hs₂.2 b hb'.1).trans (hk b o hb e))
end
end Mine
namespace Mine

theorem reM {stored : List Str} {m r : Str → Option Value} (h : ∀ y, stored.contains y = false → m y = r y) : m = fun y => if stored.contains y then m y else r y := by
  funext y
  cases q : stored.contains y with
  | true => simp
  | false => simp [h y q]

/-- one more fact for the ledger -/
theorem news_add {base h h' : Heap} {L x : Addr} {o : Obj} {m : Str → Option Value} {news : List (Addr × Obj)} (F : Fr base L h m) (N : News base L h' news) (hx : h.get? x = none) (e : h'.get? x = some o) : News base L h' ((x, o) :: news) := fun p hp => by
  rcases List.mem_cons.mp hp with rfl | hp
  · refine ⟨e, ?_, ?_⟩
    · rintro rfl; obtain ⟨oL, _, _, eL, _⟩ := F.ns; rw [hx] at eL; cases eL
    · cases q : base.get? x with
      | none => rfl
      | some o' => rw [F.keep _ _ q] at hx; cases hx
  · exact N p hp

/-- what is new behind a step was no object ahead of it -/
theorem fresh_of {base h h5 : Heap} {L x : Addr} {ex : List Addr} {nw : List (Addr × Obj)} (N : ∀ p ∈ nw, h5.get? p.1 = some p.2) (hs : ∀ p ∈ rest base L ex h, p ∈ nw) (e : h5.get? x = none) (hb : base.get? x = none) (hL : x ≠ L) (hx : x ∉ ex) : h.get? x = none := by
  cases q : h.get? x with
  | none => rfl
  | some o => have := N _ (hs _ (mem_rest hL hx hb q)); rw [e] at this; cases this

theorem not_solid_list {its : Array Value} {n : Nat} : ¬ solid ({ cls := .type "list", data := .seq its n } : Obj) := by
  rintro (⟨a, q⟩ | q | q) <;> exact absurd q (by simp)

theorem txt_item {text : Str} {i : Nat} (h : i < text.cps.size) : Txt.item text (0 + (i : Int)) = ⟨#[text.cps.getD i 0]⟩ := by
  unfold Txt.item Txt.charAt seqIndex? Str.length
  have h1 : ¬ ((i : Int) < 0) := by omega
  simp [h, h1, Array.getD_eq_getD_getElem?]

section
variable {w : World} {A : Around} {s : Shared} {base : Heap} {loose : List Str} {mean : ExcName → Option Value} {mg mb : Str → Option Value} {Q E : Value → Shared → Prop} {nums : Addr} {vs : List Value} {ns : List Int} {n : Nat} {text : Str} {tt : Tok}

/-- the sign at a place of a text -/
def sgAt (text : Str) (ns : List Int) (i : Nat) : Sg := ⟨⟨#[text.cps.getD i 0]⟩, fileF ns i, rowF ns i, colF ns i⟩

abbrev chStored : List Str := [Str.ofString "i", Str.ofString "file", Str.ofString "line", Str.ofString "column"]
abbrev chMap (fd nums : Addr) (text : Str) (tt : Tok) (u : Str → Option Value) : Str → Option Value := fun y =>
  if chStored.contains y then u y else if y = Str.ofString "found" then some (.ref fd) else if y = Str.ofString "nums" then some (.ref nums) else if y = Str.ofString "text" then some (.str text tt) else none

def chJ (s : Shared) (L nums fd : Addr) (vs : List Value) (ns : List Int) (n : Nat) (text : Str) (tt : Tok) (i : Nat) (m : Str → Option Value) (h : Heap) : Prop :=
  ∃ (cs : List Addr) (u : Str → Option Value), m = chMap fd nums text tt u ∧ h.get? fd = some (lstO (cs.map Value.ref)) ∧ h.get? nums = some (listOf vs.toArray n) ∧ cs.length = i ∧ (∀ (j : Nat) (c : Addr), cs[j]? = some c → CharP (fun b => s.heap.get? b = none ∧ b ≠ L) h c (sgAt text ns j)) ∧ Keep s.heap h

theorem chars_spec :
   (hd.heap_39 w.params).In base → Top hd.view_39 loose mean mg mb base → Over base s.heap → A.handled = none → A.depth ≤ 310 → A.units ≤ 50 → base.get? nums = none → s.heap.get? nums = some (listOf vs.toArray n) → IntsAre vs ns → ns.length ≤ 16 → text.cps.size ≤ 100 →
   (∀ (a : Addr) (cs : List Addr) (h' : Heap) (tk' : Nat), Keep s.heap h' → s.heap.get? a = none → h'.get? a = some (lstO (cs.map Value.ref)) → cs.length = text.cps.size → (∀ (j : Nat) (c : Addr), cs[j]? = some c → CharP (fun b => s.heap.get? b = none) h' c (sgAt text ns j)) → Q (.ref a) { s with heap := h', toks := tk' }) →
   wpAny (model PySem.Challenge.rw_rk0003_01.row.prog w) A (call (.ref 105) [.str text tt, .ref nums] []) Q E s := by
  k_fill
  intro KX T O hh hdep hun hnb hl hi hfit htx h
  obtain ⟨hnd, dp, fr, gd, un⟩ := A
  dsimp only at hh hdep hun
  subst hh
  refine wpAny_call ?_
  refine enter (binds := [(Str.ofString "text", .str text tt), (Str.ofString "nums", .ref nums)]) O KX T.nolimit rfl (by k_is) (Nat.lt_of_le_of_lt hdep (by decide)) (BindsTo.of_eq rfl) (locs rfl) (fun y => (lookup_if.trans (by rw [lookup_if, List.lookup_nil]))) ?_ rfl rfl rfl (by decide)
  intro L' h₁ hLn hL k F'
  have O' := Over.ofFr F'
  have hl' := k _ _ hl
  have hnL : nums ≠ L' := by rintro rfl; rw [hLn] at hl; cases hl
  have N' : News base L' h₁ ((nums, listOf vs.toArray n) :: rest base L' [nums] h₁) := by
    intro p hp
    rcases List.mem_cons.mp hp with rfl | hp
    · exact ⟨hl', hnL, hnb⟩
    · exact rest_news p hp
  obtain ⟨own, hro⟩ : ∃ own, own = rest base L' [nums] h₁ := ⟨_, rfl⟩
  rw [← hro] at N'
  have hsz : text.length ≤ 100 := htx
  k_unmd
  k_fold
  repeat' (first | (k_unfold; (try dsimp only)) | ((fail_if_success (with_reducible show wpAny _ _ (exec (Stmt.For _ _ _ _ _) _) _ _ _)); (first | walk1 | (dsimp only; walk1) | (leave1; try dsimp only))) | fail "no step")
  refine wpAny_For ?_
  repeat' (first | (k_unfold; (try dsimp only)) | ((fail_if_success (with_reducible show wpAny _ _ (pyIter _) _ _ _)); (first | walk1 | (dsimp only; walk1) | (leave1; try dsimp only))) | fail "no step")
  (rename IsRange _ _ _ _ _ _ _ _ => hrg); (rename Fr base L' _ _ => F2); (rename News base L' _ _ => N2)
  rename_i fd _ _ _ _ _ h2 _ _ _ _ _
  refine wpAny_pyIter_range hrg (small_one (by decide) (by decide) (by omega) (by omega)) ?_
  have ks : KeepBut [L', nums] h₁ _ := rest_keep O' F2 N2 (fun p hp => .tail _ (.tail _ (hro ▸ hp)))
  have hfd := (N2 _ (.head _)).1
  have hfL : fd ≠ L' := (N2 _ (.head _)).2.1
  have hnm := (N2 _ (.tail _ (.head _))).1
  have hL2 := F2.ns.lt
  have hfs : s.heap.get? fd = none := by
    cases q : s.heap.get? fd with
    | none => rfl
    | some o =>
      exfalso
      have l1 := ‹nums < fd ∧ AllLt fd own›
      have hn : fd ∉ [nums] := fun hm => Nat.ne_of_gt l1.1 (List.mem_singleton.mp hm)
      have hm : (fd, o) ∈ own := by rw [hro]; exact mem_rest hfL hn (N2 _ (.head _)).2.2 (k _ _ q)
      exact Nat.lt_irrefl _ (tb_ltOf l1.2 _ hm)
  dsimp only
  refine for_iter (cw := [fd]) (N0 := h2.objs.size + 1) (Iter.ofWalks (LCg.range_walks (by exact rfl) 0 text.length) _ _ ?hcw ?hsol) rfl rfl rfl ?hLw ?hLN ?hwr ?hst (F2.push _) (chJ s L' nums fd vs ns n text tt) ?h0 ?hJ ?step ?hR
  case hcw =>
    intro b hb
    have hb' := List.mem_singleton.mp hb
    subst hb'
    have := Heap.lt_size hfd
    simp only [List.mem_cons, List.not_mem_nil, or_false, not_or]
    exact ⟨Nat.ne_of_gt hL2, Nat.ne_of_gt this⟩
  case hsol =>
    intro i h st b hb o e
    have hb' := List.mem_singleton.mp hb
    subst hb'
    have st' : h.get? _ = some _ := st
    rw [st'] at e
    cases e
    rintro (⟨a, q⟩ | q | q) <;> exact absurd q (by simp)
  case hLw => exact fun hm => Nat.ne_of_lt hL2 (List.mem_singleton.mp hm)
  case hLN => exact Nat.lt_succ_of_lt hL2
  case hwr => intro b hb; rw [List.mem_singleton.mp hb]; exact next_is_new F2
  case hst =>
    show IsRangeIter _ _ _ _ _
    rw [rangeSize_nat]
    simpa using Heap.get?_push_size _ rfl
  case h0 =>
    refine ⟨[], _, reM (stored := chStored) (fun y hy => rfl), Heap.get?_push_of_some _ hfd, Heap.get?_push_of_some _ hnm, rfl, fun j c hj => by simp at hj, fun b o e => Heap.get?_push_of_some _ ?_⟩
    have hb : b ≠ L' := Nat.ne_of_lt (Nat.lt_of_lt_of_le (Heap.lt_size e) hL)
    by_cases hn : b = nums
    · subst hn; rw [hl] at e; cases e; exact hnm
    · exact ks b o (by simp [hb, hn]) (k b o e)
  case hJ =>
    rintro i m h h' _ kh ⟨cs, u, rfl, c1, c2, c3, c4, c5⟩
    have hlow : ∀ b o, s.heap.get? b = some o → b ≠ L' ∧ okB true (h2.objs.size + 1) [h2.objs.size] b o := fun b o e => by
      have h1 := Nat.lt_of_lt_of_le (Heap.lt_size e) hL
      have h3 := Nat.lt_trans h1 hL2
      exact ⟨Nat.ne_of_lt h1, okB.low (Nat.lt_succ_of_lt h3) fun hm => Nat.ne_of_lt h3 (List.mem_singleton.mp hm)⟩
    have hfd2 : fd < h2.objs.size := Heap.lt_size hfd
    refine ⟨cs, u, rfl, kh _ _ hfL (okB.low (Nat.lt_succ_of_lt hfd2) fun hm => Nat.ne_of_lt hfd2 (List.mem_singleton.mp hm)) c1, kh _ _ hnL (hlow _ _ hl).2 c2, c3, fun j c hj => (c4 j c hj).keep fun b o p so e => kh b o p.2 (.inl ⟨rfl, .inl so⟩) e, fun b o e => kh b o (hlow b o e).1 (hlow b o e).2 (c5 b o e)⟩
  case step =>
    rintro i v m₁ s₁ hit ⟨ti, rfl⟩ _ ⟨cs, u, rfl, c1, c2, c3, c4, c5⟩ F3
    have O3 := Over.ofFr F3
    have N3 : News base L' s₁.heap ((fd, lstO (cs.map Value.ref)) :: (nums, listOf vs.toArray n) :: rest base L' [fd, nums] s₁.heap) := by
      intro p hp
      rcases List.mem_cons.mp hp with rfl | hp
      · exact ⟨c1, hfL, (N2 _ (.head _)).2.2⟩
      · rcases List.mem_cons.mp hp with rfl | hp
        · exact ⟨c2, hnL, hnb⟩
        · exact rest_news p hp
    have hoff : OwnOff (rest base L' [fd, nums] s₁.heap) [fd, nums] := rest_ownOff
    obtain ⟨own3, hro3⟩ : ∃ own3, own3 = rest base L' [fd, nums] s₁.heap := ⟨_, rfl⟩
    rw [← hro3] at N3 hoff
    k_steps
    refine place_spec (i := i) KX T (Over.ofFr F3) (Nat.lt_of_le_of_lt (Nat.succ_le_succ hdep) (by decide)) hnb c2 hi hfit (by omega) (by omega) ?_
    intro tup t1 t2 t3 h4 tk4 k4 e4 e5
    have F4 := F3.keeps k4
    have N4 := news_add F3 (N3.grown k4) e4 e5
    have q4 : @Ne Nat tup fd := by rintro rfl; rw [e4] at c1; cases c1
    k_steps
    (rename Fr base L' _ _ => F5); (rename News base L' _ _ => N5)
    have M5 := fun p hp => (N5 p hp).1
    refine loc_new (KX.keeps F5.keep) rfl (Nat.le_trans (Nat.succ_le_succ hdep) (by decide)) (Nat.le_trans (Nat.add_le_add_right hun 3) (by decide)) ?_
    rintro _ _ ⟨lo, dl, h5, tk5, rfl, rfl, k5, e6, e7, e8, e9⟩
    have F6 := F5.keeps k5
    have N6 := news_add F5 (news_add F5 (N5.grown k5) e7 e9) e6 e8
    have g5 := (N5 (fd, _) (by k_mem)).1
    have q5 : @Ne Nat lo fd := by rintro rfl; rw [e6] at g5; cases g5
    have q6 : @Ne Nat dl fd := by rintro rfl; rw [e7] at g5; cases g5
    k_steps
    (rename Fr base L' _ _ => F7); (rename News base L' _ _ => N7)
    have M7 := fun p hp => (N7 p hp).1
    refine char_new (KX.keeps F7.keep) rfl (Nat.le_trans (Nat.succ_le_succ hdep) (by decide)) (Nat.le_trans (Nat.add_le_add_right hun 3) (by decide)) ?_
    rintro _ _ ⟨x, dx, t1', t2', k1', k2', h6, tk6, rfl, rfl, k6, e10, e11, e12, e13⟩
    have F8 := F7.keeps k6
    have N8 := news_add F7 (news_add F7 (N7.grown k6) e11 e13) e10 e12
    have g7 := (N7 (fd, _) (by k_mem)).1
    have q7 : @Ne Nat x fd := by rintro rfl; rw [e10] at g7; cases g7
    have q8 : @Ne Nat dx fd := by rintro rfl; rw [e11] at g7; cases g7
    have q9 : @Ne Nat nums fd := Nat.ne_of_lt (‹nums < fd ∧ AllLt fd own›).1
    k_steps
    (rename Fr base L' _ _ => F9); (rename News base L' _ _ => N9)
    have kk : KeepBut [L', fd, nums] s₁.heap _ := rest_keep O3 F9 N9 (fun p hp => .tail _ (.tail _ (.tail _ (.tail _ (.tail _ (.tail _ (.tail _ (hro3 ▸ hp))))))))
    have kn := (N9 (nums, _) (by k_mem)).1
    have k2 : KeepBut [L', fd] s₁.heap _ := fun b o hb e => by
      by_cases hn : b = nums
      · subst hn; rw [c2] at e; cases e; exact kn
      · exact kk b o (by simp only [List.mem_cons, List.not_mem_nil, or_false, not_or] at hb ⊢; exact ⟨hb.1, hb.2, hn⟩) e
    have nx : ∀ b, b ≠ L' → s₁.heap.get? b = none → s.heap.get? b = none ∧ b ≠ L' := fun b hb e => by
      refine ⟨?_, hb⟩
      cases q : s.heap.get? b with
      | none => rfl
      | some o => rw [c5 _ _ q] at e; cases e
    have z1 := N9 (x, _) (by k_mem)
    have z2 := N9 (dx, _) (by k_mem)
    have z3 := N9 (lo, _) (by k_mem)
    have z4 := N9 (dl, _) (by k_mem)
    have g5n := M5 (nums, _) (by k_mem)
    have g7n := M7 (nums, _) (by k_mem)
    have y1 := nx x z1.2.1 (fresh_of (ex := [fd, nums]) M7 (fun p hp => .tail _ (.tail _ (.tail _ (.tail _ (.tail _ (hro3 ▸ hp)))))) e10 z1.2.2 z1.2.1 (by
      simp only [List.mem_cons, List.not_mem_nil, or_false, not_or]; exact ⟨q7, by rintro rfl; rw [e10] at g7n; cases g7n⟩))
    have y2 := nx dx z2.2.1 (fresh_of (ex := [fd, nums]) M7 (fun p hp => .tail _ (.tail _ (.tail _ (.tail _ (.tail _ (hro3 ▸ hp)))))) e11 z2.2.2 z2.2.1 (by
      simp only [List.mem_cons, List.not_mem_nil, or_false, not_or]; exact ⟨q8, by rintro rfl; rw [e11] at g7n; cases g7n⟩))
    have y3 := nx lo z3.2.1 (fresh_of (ex := [fd, nums]) M5 (fun p hp => .tail _ (.tail _ (.tail _ (hro3 ▸ hp)))) e6 z3.2.2 z3.2.1 (by
      simp only [List.mem_cons, List.not_mem_nil, or_false, not_or]; exact ⟨q5, by rintro rfl; rw [e6] at g5n; cases g5n⟩))
    have y4 := nx dl z4.2.1 (fresh_of (ex := [fd, nums]) M5 (fun p hp => .tail _ (.tail _ (.tail _ (hro3 ▸ hp)))) e7 z4.2.2 z4.2.1 (by
      simp only [List.mem_cons, List.not_mem_nil, or_false, not_or]; exact ⟨q6, by rintro rfl; rw [e7] at g5n; cases g5n⟩))
    refine TurnEnd.mk' k2 F9 ⟨cs ++ [x], _, reM (stored := chStored) (fun y hy => ?_), ?_, kn, by simp [c3], fun j c hj => ?_, fun b o e => ?_⟩
    · have hy2 := hy
      simp only [chStored, List.contains_cons, List.contains_nil, Bool.or_false, Bool.or_eq_false_iff, beq_eq_false_iff_ne, ne_eq] at hy2
      obtain ⟨a1, a2, a3, a4⟩ := hy2
      simp only [a1, a2, a3, a4, if_false]
      show chMap fd nums text tt u y = _
      unfold chMap
      rw [hy]
      rfl
    · rw [(N9 (fd, _) (by k_mem)).1]
      simp
    · rw [List.getElem?_append] at hj
      split at hj
      · refine (c4 j c hj).keep fun b o p so e => k2 b o ?_ e
        simp only [List.mem_cons, List.not_mem_nil, or_false, not_or]
        refine ⟨p.2, ?_⟩
        rintro rfl
        rw [c1] at e; cases e
        exact not_solid_list so
      · rename_i hge
        have : j = i := by
          rcases Nat.lt_or_ge (j - cs.length) 1 with h | h
          · omega
          · rw [List.getElem?_eq_none (by simpa using h)] at hj; cases hj
        subst this
        rw [c3, Nat.sub_self] at hj
        cases hj
        have zz : Txt.item text (0 + (j : Int)) = (sgAt text ns j).ch := txt_item hit
        exact ⟨dx, lo, _, t1', t2', k1', k2', z1.1, zz ▸ z2.1, y1, y2, dl, _, _, _, _, z3.1, z4.1, y3, y4⟩
    · have hb : b ≠ L' := Nat.ne_of_lt (Nat.lt_of_lt_of_le (Heap.lt_size e) hL)
      by_cases hf : b = fd
      · subst hf; rw [hfs] at e; cases e
      · exact k2 b o (by simp [hb, hf]) (c5 b o e)
  case hR =>
    rintro s' m' F3 ⟨cs, u, rfl, c1, c2, c3, c4, c5⟩ hg hb hd ho
    have N3 : News base L' s'.heap [] := News.nil
    k_steps
    dsimp only
    k_unmd
    k_unfold
    dsimp only
    obtain ⟨sh, sg, sd, stk, so⟩ := s'
    dsimp only at hg hd ho c1 c4 c5 ⊢
    rw [hg rfl, hd, ho]
    exact h fd cs sh stk c5 hfs c1 c3 fun j c hj => (c4 j c hj).mono fun b o _ p => p.1
end
end Mine
namespace Mine

abbrev tup4 (g : Sg) (t1 t2 t3 t4 : Tok) : Obj := { cls := .type "tuple", data := .seq #[.str g.ch t1, .str g.file t2, .int g.row t3, .int g.col t4] }
/-- a told sign -/
def TupAt (h : Heap) (y : Value) (g : Sg) : Prop := ∃ a t1 t2 t3 t4, y = .ref a ∧ h.get? a = some (tup4 g t1 t2 t3 t4)
theorem TupAt.firm {h h' : Heap} {y : Value} {g : Sg} (x : TupAt h y g) (k : Firm h h') : TupAt h' y g :=
  let ⟨a, t1, t2, t3, t4, e, q⟩ := x; ⟨a, t1, t2, t3, t4, e, k _ _ ⟨rfl, _, _, rfl⟩ q⟩

def ItemAt (base : Heap) (sgs : List Sg) (av : List Addr) (i : Nat) (v : Value) (h : Heap) : Prop :=
  ∃ c g, v = .ref c ∧ sgs[i]? = some g ∧ CharP (fun b => base.get? b = none ∧ b ∉ av) h c g

/-- an iterable of signs, as it stands in s -/
def SrcOk (prog : Program) (w : World) (Ad : Around) (base : Heap) (src : Addr) (gs : Bool) (wr0 : List Addr) (sgs : List Sg) (s : Shared) : Prop :=
  ∀ (s₁ : Shared) (Q' : Value → Shared → Prop) (E' : Value → Shared → Prop), Keep s.heap s₁.heap → s₁.gens = s.gens → s₁.drawn = s.drawn → s₁.os = s.os →
    (∀ I wr (s₂ : Shared), Keep s₁.heap s₂.heap → s₂.gens = s₁.gens → s₂.drawn = s₁.drawn → s₂.os = s₁.os → (∀ b ∈ wr, b < s₂.heap.objs.size) → (∀ b ∈ wr, b ∉ wr0 → s₁.heap.get? b = none) → (∃ o, s₂.heap.get? I = some o) → ((∃ o, s.heap.get? I = some o) ∨ s₁.heap.get? I = none) →
      (∀ (cw av : List Addr) (s₃ : Shared), Keep s₂.heap s₃.heap → s₃.gens = s₂.gens → (∀ b ∈ cw, s.heap.get? b = none ∧ b ≠ I ∧ b < s₃.heap.objs.size) → (∀ b ∈ av, b ∈ cw) → (∀ b ∈ cw, ∃ o, s₃.heap.get? b = some o) →
        ∃ St, Iter prog w Ad I sgs.length (ItemAt base sgs (av ++ cw ++ wr)) St gs s₃.heap.objs.size wr cw ∧ St 0 s₃) →
      Q' (.ref I) s₂) → wpAny (model prog w) Ad (pyIter (.ref src)) Q' E' s₁

section
variable {w : World} {A : Around} {s : Shared} {base : Heap} {loose : List Str} {mean : ExcName → Option Value} {mg mb : Str → Option Value} {Q E : Value → Shared → Prop} {src : Addr} {gs : Bool} {wr0 : List Addr} {sgs : List Sg}

theorem told_spec :
   (hd.heap_39 w.params).In base → Top hd.view_39 loose mean mg mb base → Over base s.heap → A.handled = none → A.depth ≤ 310 → A.units ≤ 50 → sgs.length ≤ 100 → (∀ b ∈ wr0, b < s.heap.objs.size ∧ base.get? b = none) →
   (∀ env, SrcOk PySem.Challenge.rw_rk0003_01.row.prog w (A.deeper env) base src gs wr0 sgs s) →
   (∀ (a : Addr) (ys : List Value) (s' : Shared), s.heap.get? a = none → s'.heap.get? a = some (lstO ys) → ys.length = sgs.length → (∀ (j : Nat) y g, ys[j]? = some y → sgs[j]? = some g → TupAt s'.heap y g) → KeepBut wr0 s.heap s'.heap →
     (gs = true → s'.gens = s.gens) → (AllBare s.gens → AllBare s'.gens) → s'.drawn = s.drawn → s'.os = s.os → Q (.ref a) s') →
   wpAny (model PySem.Challenge.rw_rk0003_01.row.prog w) A (call (.ref 110) [.ref src] []) Q E s := by
  k_fill
  intro KX T O hh hdep hun hlen hw0 hsrc h
  obtain ⟨hnd, dp, fr, gd, un⟩ := A
  dsimp only at hh hdep hun
  subst hh
  refine wpAny_call ?_
  refine enter (binds := [(Str.ofString "chars", .ref src)]) O KX T.nolimit rfl (by k_is) (Nat.lt_of_le_of_lt hdep (by decide)) (BindsTo.of_eq rfl) (locs rfl) (fun y => (lookup_if.trans (by rw [List.lookup_nil]))) ?_ rfl rfl rfl (by decide)
  intro L' h₁ hLn hL k F'
  have O' := Over.ofFr F'
  have N' : News base L' h₁ [] := News.nil
  refine wpAny_execs_cons ?_
  refine wpAny_Return_some ?_
  refine ListComp_it (cl := []) rfl (by decide) rfl (by decide) rfl ?_
  walk1
  refine hsrc _ _ _ _ k rfl rfl rfl ?_
  intro I wr s₂ k2 g2 d2 o2 hw1 hw2 hI hI2 hit
  have hww : ∀ b o, h₁.get? b = some o → b ∈ wr → b ∈ wr0 := fun b o e hm => by
    by_cases hb : b ∈ wr0
    · exact hb
    · have := hw2 b hm hb; rw [e] at this; cases this
  obtain ⟨oL, eL⟩ : ∃ oL, h₁.get? L' = some oL := by obtain ⟨oL, _, _, eL, _⟩ := F'.ns; exact ⟨oL, eL⟩
  have hLw : L' ∉ wr := fun hm => absurd (hw0 _ (hww _ _ eL hm)).1 (Nat.not_lt.mpr hL)
  refine ⟨I, sgs.length, gs, wr, ItemAt base sgs [L'], fun i y h => ∃ g, sgs[i]? = some g ∧ TupAt h y g, rfl, ⟨?it, ?sz, hw1, ⟨_, F'.ns.keeps k2⟩, hLw, ?el, ?elm⟩, ?fin⟩
  case it =>
    intro D C h3 tk k3 hD hC ⟨oD, eD⟩ ⟨oC, eC⟩
    obtain ⟨oI, eI⟩ := hI
    have fr0 : ∀ b, s₂.heap.get? b = none → s.heap.get? b = none ∧ b ≠ I := fun b e => by
      refine ⟨?_, by rintro rfl; rw [e] at eI; cases eI⟩
      cases q : s.heap.get? b with
      | none => rfl
      | some o => rw [k2 _ _ (k _ _ q)] at e; cases e
    have hLI : L' ≠ I := by
      rintro rfl
      rcases hI2 with ⟨o, e⟩ | e
      · rw [hLn] at e; cases e
      · have e' : h₁.get? L' = none := e
        rw [eL] at e'; cases e'
    obtain ⟨St, W, st⟩ := hit [C, D, L'] [L'] { s₂ with heap := h3, toks := tk } k3 rfl (by
      intro b hb
      rcases List.mem_cons.mp hb with rfl | hb
      · exact ⟨(fr0 _ hC).1, (fr0 _ hC).2, Heap.lt_size eC⟩
      · rcases List.mem_cons.mp hb with rfl | hb
        · exact ⟨(fr0 _ hD).1, (fr0 _ hD).2, Heap.lt_size eD⟩
        · rw [List.mem_singleton.mp hb]; exact ⟨hLn, hLI, Heap.lt_size (k3 _ _ (k2 _ _ eL))⟩) (by simp) (by
      intro b hb
      rcases List.mem_cons.mp hb with rfl | hb
      · exact ⟨_, eC⟩
      · rcases List.mem_cons.mp hb with rfl | hb
        · exact ⟨_, eD⟩
        · rw [List.mem_singleton.mp hb]; exact ⟨_, k3 _ _ (k2 _ _ eL)⟩)
    refine ⟨_, St, W, ?_, st⟩
    rintro i v h ⟨c, g, e1, e2, c3⟩
    exact ⟨c, g, e1, e2, c3.mono fun b o _ p => ⟨p.1, fun hm => p.2 (List.mem_append_left _ (List.mem_append_left _ hm))⟩⟩
  case sz => exact Nat.le_trans hlen (by decide)
  case el => exact fun i y h h' kf ⟨g, e, t⟩ => ⟨g, e, t.firm kf⟩
  case elm =>
    rintro i v C s₃ m₃ hi ⟨c, g, rfl, eg, dx, l, t, t1, t2, kh1, kh2, z1, z2, p1, p2, dl, u, u1, u2, u3, z3, z4, p3, p4⟩ hC hn hm kk kns
    have hLne : L' ≠ C := by
      rintro rfl
      rw [k2 _ _ eL] at hC; cases hC
    obtain ⟨oC, eC, hoC⟩ := LCg.ns_obj hn
    have F3 : Fr base L' s₃.heap _ := ⟨kns _ (F'.ns.keeps k2), fun b o e => kk b o (fun hm => by
      rcases List.mem_cons.mp hm with q | hm
      · exact absurd (Nat.lt_of_lt_of_le (Heap.lt_size e) (Nat.le_trans O.size hL)) (by rw [q]; exact Nat.lt_irrefl _)
      · rw [(hw0 _ (hww _ _ (F'.keep _ _ e) hm)).2] at e; cases e) (k2 _ _ (F'.keep _ _ e)), F'.above⟩
    have N3 : News base L' s₃.heap ((C, oC) :: (c, instObj 38 dx) :: (dx, charD g.ch t l t1 t2 kh1 kh2) :: (l, locO dl g.file g.row g.col u u1 u2 u3) :: (dl, dictOf [] 0) :: rest base L' [] s₃.heap) := by
      have hCb : base.get? C = none := by
        cases q : base.get? C with
        | none => rfl
        | some o => rw [k2 _ _ (F'.keep _ _ q)] at hC; cases hC
      have off : ∀ {b : Addr}, b ∉ [L'] → b ≠ L' := fun h e => h (List.mem_singleton.mpr e)
      intro p hp
      rcases List.mem_cons.mp hp with rfl | hp
      · exact ⟨eC, Ne.symm hLne, hCb⟩
      rcases List.mem_cons.mp hp with rfl | hp
      · exact ⟨z1, off p1.2, p1.1⟩
      rcases List.mem_cons.mp hp with rfl | hp
      · exact ⟨z2, off p2.2, p2.1⟩
      rcases List.mem_cons.mp hp with rfl | hp
      · exact ⟨z3, off p3.2, p3.1⟩
      rcases List.mem_cons.mp hp with rfl | hp
      · exact ⟨z4, off p4.2, p4.1⟩
      exact rest_news p hp
    have O3 := Over.ofFr F3
    obtain ⟨own3, hro3⟩ : ∃ own3, own3 = rest base L' [] s₃.heap := ⟨_, rfl⟩
    rw [← hro3] at N3
    have fin := fun h' tk y (F9 : Fr base L' h' (fun y => if y = Str.ofString "chars" then some (Value.ref src) else none)) (nw : List (Addr × Obj)) (N9 : News base L' h' nw) (hs : ∀ p ∈ own3, p ∈ nw) (z : ∃ g, sgs[i]? = some g ∧ TupAt h' y g) => ElmEnd.mk' (El := fun y h => ∃ g, sgs[i]? = some g ∧ TupAt h y g) (tk := tk) F3 F9 (rest_keep O3 F9 N9 (fun p hp => hs p (hro3 ▸ hp))) z
    k_steps
    (rename Fr base L' _ _ => F9); (rename News base L' _ _ => N9)
    exact fin _ _ _ F9 _ N9 (fun p hp => .tail _ (.tail _ (.tail _ (.tail _ (.tail _ (.tail _ hp)))))) ⟨g, eg, _, _, _, _, _, rfl, (N9 _ (.head _)).1⟩
  case fin =>
    intro D ys s' out
    refine h D ys s' ?_ out.at' out.len ?_ ?_ (fun hg => (out.gens hg).trans g2) (fun hb => out.bare (by rw [g2]; exact hb)) (out.drawn.trans d2) (out.os.trans o2)
    · cases q : s.heap.get? D with
      | none => rfl
      | some o => have := out.new; rw [k2 _ _ (k _ _ q)] at this; cases this
    · intro j y g hy hg
      obtain ⟨g', e, t⟩ := out.el j y hy
      rw [hg] at e; cases e
      exact t
    · intro b o hb e
      refine out.keep b o (fun hm => ?_) (k2 _ _ (k _ _ e))
      rcases List.mem_cons.mp hm with q | hm
      · rw [show b = L' from q, hLn] at e; cases e
      · exact hb (hww _ _ (k _ _ e) hm)
end
end Mine
namespace Mine

theorem Iter.withFacts {prog : Program} {w : World} {A : Around} {I : Addr} {n N0 : Nat} {Item : Nat → Value → Heap → Prop} {St : Nat → Shared → Prop} {gs : Bool} {wr cw : List Addr} (W : Iter prog w A I n Item St gs N0 wr cw) (X : Heap → Prop)
    (h1 : ∀ s s', Mv gs N0 wr s s' → X s.heap → X s'.heap) (h2 : ∀ h h', KeepBut cw h h' → X h → X h') : Iter prog w A I n (fun i v h => Item i v h ∧ X h) (fun i s => St i s ∧ X s.heap) gs N0 wr cw where
  item := fun i s Q E hi st hQ => W.item i s Q E hi st.1 fun v s' hv st' hm => hQ v s' ⟨hv, h1 _ _ hm st.2⟩ ⟨st', h1 _ _ hm st.2⟩ hm
  done := fun s Q E st hQ => W.done s Q E st.1 hQ
  self := fun i s Q E st hQ => W.self i s Q E st.1 hQ
  frame := fun i s h' tk st k z => ⟨W.frame i s h' tk st.1 k z, h2 _ _ k st.2⟩
  stable := fun i v h h' x k => ⟨W.stable i v h h' x.1 k, h2 _ _ k x.2⟩
theorem Iter.weaken {prog : Program} {w : World} {A : Around} {I : Addr} {n N0 : Nat} {Item Item' : Nat → Value → Heap → Prop} {St : Nat → Shared → Prop} {gs : Bool} {wr cw : List Addr} (W : Iter prog w A I n Item St gs N0 wr cw)
    (h1 : ∀ i v h, i < n → Item i v h → Item' i v h) (h2 : ∀ i v h h', Item' i v h → KeepBut cw h h' → Item' i v h') : Iter prog w A I n Item' St gs N0 wr cw where
  item := fun i s Q E hi st hQ => W.item i s Q E hi st fun v s' hv st' hm => hQ v s' (h1 _ _ _ hi hv) st' hm
  done := W.done
  self := W.self
  frame := W.frame
  stable := h2

section
variable {w : World} {A : Around} {s : Shared} {base : Heap} {src : Addr} {cs : List Addr} {sgs : List Sg} {n : Nat}

/-- a list of signs is an iterable of signs -/
theorem list_src {prog : Program} (hh : A.handled = none) (hl : s.heap.get? src = some (listOf (cs.map Value.ref).toArray n)) (hlen : cs.length = sgs.length)
    (hc : ∀ (j : Nat) c g, cs[j]? = some c → sgs[j]? = some g → CharP (fun b => base.get? b = none) s.heap c g) : SrcOk prog w A base src true [] sgs s := by
  intro s₁ Q' E' k₁ g₁ d₁ o₁ h
  have hl₁ : s₁.heap.IsList src (cs.map Value.ref).toArray := ⟨_, k₁ _ _ hl, rfl, n, rfl⟩
  have hlt : src < s₁.heap.objs.size := Heap.lt_size (k₁ _ _ hl)
  refine wpAny_pyIter_list hl₁ ?_
  have up : Keep s₁.heap (s₁.heap.push { cls := .type "list_iterator", data := .fields #[.ref src, .int 0 0] }) := fun b o e => Heap.get?_push_of_some _ e
  refine h s₁.heap.objs.size [s₁.heap.objs.size] _ up rfl rfl rfl ?_ ?_ ⟨_, Heap.get?_push_size _ rfl⟩ (.inr (Heap.get?_none_of_le (Nat.le_refl _))) ?_
  · intro b hb
    rw [List.mem_singleton.mp hb]
    show s₁.heap.objs.size < (s₁.heap.push _).objs.size
    rw [Heap.size_push]; exact Nat.lt_succ_self _
  · intro b hb _
    rw [List.mem_singleton.mp hb]
    exact Heap.get?_none_of_le (Nat.le_refl _)
  · intro cw av s₃ k₃ g₃ hcw hav' _
    have hav : ∀ b ∈ av, s.heap.get? b = none ∧ b < s₃.heap.objs.size := fun b hb => ⟨(hcw b (hav' b hb)).1, (hcw b (hav' b hb)).2.2⟩
    have hW := Walks.list (prog := prog) (w := w) hh s₁.heap.objs.size src (Nat.ne_of_lt hlt) (cs.map Value.ref).toArray
    have hsz : (cs.map Value.ref).toArray.size = sgs.length := by simp [hlen]
    rw [hsz] at hW
    have W0 := Iter.ofWalks hW s₃.heap.objs.size cw (by
      intro b hb hm
      obtain ⟨c1, c2, _⟩ := hcw b hm
      rcases List.mem_cons.mp hb with q | hb
      · exact c2 q
      · rw [List.mem_singleton.mp hb, hl] at c1; cases c1) (by
      intro i h st b hb o e
      rw [List.mem_singleton.mp hb] at e
      obtain ⟨⟨o', e', c', _⟩, _⟩ := st
      rw [e] at e'; cases e'
      rintro (⟨a, q⟩ | q | q) <;> (rw [c'] at q; exact absurd q (by simp)))
    have W1 := W0.withFacts (fun h => ∀ (j : Nat) c g, cs[j]? = some c → sgs[j]? = some g → CharP (fun b => base.get? b = none ∧ b ∉ av ++ cw ++ [s₁.heap.objs.size]) h c g)
      (fun s s' hm x j c g e1 e2 => (x j c g e1 e2).keep fun b o _ so e => hm.heap b o e (.inl ⟨rfl, .inl so⟩))
      (fun h h' k x j c g e1 e2 => (x j c g e1 e2).keep fun b o p _ e => k b o (fun q => p.2 (List.mem_append_left _ (List.mem_append_right _ q))) e)
    refine ⟨_, W1.weaken (Item' := ItemAt base sgs (av ++ cw ++ [s₁.heap.objs.size])) ?_ ?_, ⟨⟨⟨_, k₃ _ _ (Heap.get?_push_size _ rfl), rfl, rfl⟩, ⟨_, k₃ _ _ (up _ _ (k₁ _ _ hl)), rfl, n, rfl⟩⟩, ?_⟩⟩
    · rintro i v h hi ⟨hv, x⟩
      have hv' : (cs.map Value.ref)[i]? = some v := by simpa using hv
      rw [List.getElem?_map] at hv'
      cases e : cs[i]? with
      | none => rw [e] at hv'; cases hv'
      | some c =>
        rw [e] at hv'; cases hv'
        have e2 : sgs[i]? = some sgs[i] := List.getElem?_eq_getElem hi
        exact ⟨c, _, rfl, e2, x i c _ e e2⟩
    · rintro i v h h' ⟨c, g, e1, e2, c3⟩ k
      exact ⟨c, g, e1, e2, c3.keep fun b o p _ e => k b o (fun q => p.2 (List.mem_append_left _ (List.mem_append_right _ q))) e⟩
    · intro j c g e1 e2
      refine ((hc j c g e1 e2).mono (P' := fun b => base.get? b = none ∧ b ∉ av ++ cw ++ [s₁.heap.objs.size]) fun b o e p => ⟨p, fun q => ?_⟩).keep fun b o _ _ e => k₃ _ _ (up _ _ (k₁ _ _ e))
      rcases List.mem_append.mp q with q | q
      rcases List.mem_append.mp q with q | q
      · rw [(hav b q).1] at e; cases e
      · rw [(hcw b q).1] at e; cases e
      · have e' := k₁ _ _ e; rw [List.mem_singleton.mp q, Heap.get?_none_of_le (Nat.le_refl _)] at e'; cases e'
end
end Mine
namespace Mine

section
variable {M : Model} {A : Around} {R : GenEnd} {Y : Protocol} {n : Nat} {s₀ : Shared} {c : Code} {fs : List Frame} {s : Shared} {env : Env} {dB uB : Nat}
  {K : Flow → Sem Fin} {H : Value → Sem Fin} {gd : Bool → Bool} {lv : List Value → List Value}

/-- what stands around a piece of a generator's body -/
structure OverOk (A : Around) (c : Code) (fs : List Frame) (dB uB : Nat) : Prop where
  handled : (A.over c fs).handled = none
  depth : (A.over c fs).depth ≤ dB
  units : (A.over c fs).units ≤ uB

theorem OverOk.is (o : OverOk A c fs dB uB) : ∃ dp fr gd un, A.over c fs = { handled := none, depth := dp, frames := fr, guards := gd, units := un } ∧ dp ≤ dB ∧ un ≤ uB := by
  obtain ⟨o1, o2, o3⟩ := o
  revert o1 o2 o3
  generalize A.over c fs = B
  obtain ⟨hnd, dp, fr, gd, un⟩ := B
  rintro o1 o2 o3
  dsimp only at o1 o2 o3
  subst o1
  exact ⟨dp, fr, gd, un, rfl, o2, o3⟩

theorem seg_wrapB {α : Type} {m : Sem α} {K : α → Sem Fin} {H : Value → Sem Fin} {gd lv} (o : OverOk A c fs dB uB)
    (h : ∀ dp fr gd un, dp ≤ dB → un ≤ uB → wpAny M { handled := none, depth := dp, frames := fr, guards := gd, units := un } m (fun a s' => Seg M A R Y n s₀ c (K a) fs s') (fun _ _ => False) s) :
    Seg M A R Y n s₀ c (m.wrap K H gd lv) fs s := by
  refine seg_wrap (wpAny_mono (E := fun _ _ => False) ?_ (fun _ _ x => x) fun _ _ x => x.elim)
  obtain ⟨dp, fr, gd, un, e, h1, h2⟩ := o.is
  rw [e]
  exact h dp fr gd un h1 h2

theorem seg_If {test : Expr} {body orelse : List Stmt} {pos : Pos} (o : OverOk A c fs dB uB)
    (h : ∀ dp fr gd un, dp ≤ dB → un ≤ uB → wpAny M { handled := none, depth := dp, frames := fr, guards := gd, units := un } (isTrue test env (eval test env)) (fun b s' =>
      Seg M A R Y n s₀ c ((if b = true then execs body env else execs orelse env).wrap K H gd' lv) fs s') (fun _ _ => False) s) :
    Seg M A R Y n s₀ c ((exec (.If test body orelse pos) env).wrap K H gd' lv) fs s := by
  rw [exec_If]
  refine seg_at ?_
  show Seg M A R Y n s₀ c ((isTrue test env (eval test env) >>= fun b => if b = true then execs body env else execs orelse env).wrap K H gd' lv) fs s
  rw [Sem.bind_eq_wrap', Sem.wrap_wrap]
  exact seg_wrapB o h

abbrev ownFrame (env : Env) (K : Flow → Sem Fin) (H : Value → Sem Fin) (gd : Bool → Bool) (lv : List Value → List Value) (c : Code) (p : Pos) (kp : List Value) : Frame :=
  .ret (fun r => ((match r with | .ok f => (.pure f : Sem Flow) | .error e => .raise e).onRaise fun (x : Value) => do
        if (← field x 1) == Value.none then unsupported "frame.own-activation:exception-without-traceback"
        setFlight x env.frame).wrap K H gd lv) none (gd false) (lv []) c p kp

theorem seg_For {target iter : Expr} {body orelse : List Stmt} {pos : Pos} (o : OverOk A c fs dB uB)
    (h : ∀ dp fr gd un, dp ≤ dB → un ≤ uB → wpAny M { handled := none, depth := dp, frames := fr, guards := gd, units := un } (eval iter env) (fun x s₁ =>
      wpAny M { handled := none, depth := dp, frames := fr, guards := gd, units := un } (pyIter x) (fun it s₂ =>
        ∀ p, Seg M A R Y n s₀ (.forLoop target it body orelse env) (M.den (.forLoop target it body orelse env)) (ownFrame env K H gd' lv c p [] :: fs) s₂) (fun _ _ => False) s₁) (fun _ _ => False) s)
    (hs : ∀ x, foldedSetIterable iter env x = pure x := by intro _; rfl) :
    Seg M A R Y n s₀ c ((exec (.For target iter body orelse pos) env).wrap K H gd' lv) fs s := by
  rw [exec_For]
  refine seg_at ?_
  show Seg M A R Y n s₀ c ((eval iter env >>= fun x => foldedSetIterable iter env x >>= fun x => standAt iter.pos >>= fun _ => holding [x] (pyIter x) >>= fun it => runOwn (.forLoop target it body orelse env) env).wrap K H gd' lv) fs s
  rw [Sem.bind_eq_wrap', Sem.wrap_wrap]
  obtain ⟨dp, fr, gd, un, e, h1, h2⟩ := o.is
  refine seg_wrap ?_
  rw [e]
  refine wpAny_mono (h dp fr gd un h1 h2) (fun x s₁ h₁ => ?_) fun _ _ x => x.elim
  rw [hs x]
  refine seg_at ?_
  show Seg M A R Y n s₀ c ((holding [x] (pyIter x) >>= fun it => runOwn (.forLoop target it body orelse env) env).wrap K H gd' lv) fs s₁
  rw [Sem.bind_eq_wrap', Sem.wrap_wrap]
  refine seg_wrap ?_
  rw [e]
  refine wpAny_holding (wpAny_mono h₁ (fun it s₂ h₂ => ?_) fun _ _ x => x.elim)
  exact seg_call h₂
end

section
variable {prog : Program} {w : World} {A : Around} {R : GenEnd} {Y : Protocol} {n : Nat} {s₀ : Shared} {fs : List Frame} {s : Shared} {env : Env} {dB uB : Nat} {c₁ : Code} {p₁ : Pos} {kp : List Value} {K : Flow → Sem Fin} {H : Value → Sem Fin} {gd' : Bool → Bool} {lv : List Value → List Value}

theorem seg_forLoop {target : Expr} {it : Value} {body : List Stmt} (o : OverOk A (.forLoop target it body [] env) (ownFrame env K H gd' lv c₁ p₁ kp :: fs) dB uB)
    (h : ∀ dp fr gd un, dp ≤ dB → un ≤ uB → wpAny (model prog w) { handled := none, depth := dp, frames := fr, guards := gd, units := un } (pyNext it) (fun r s₁ => match r with
      | none => Seg (model prog w) A R Y n s₀ c₁ (K .next) fs s₁
      | some v => wpAny (model prog w) { handled := none, depth := dp, frames := fr, guards := gd, units := un } (assign target env v) (fun _ s₂ =>
          Seg (model prog w) A R Y n s₀ (.forLoop target it body [] env) ((execs body env).wrap (fun f => match f with
            | .next | .cont => .pure (.again (.forLoop target it body [] env))
            | .brk => .pure (.done .next)
            | .ret v => .pure (.done (.ret v))) (fun e => (do noteFrame e env; theTreesLotGoes e : Sem Unit).wrap (fun _ => .raise e) .raise id id) id id) (ownFrame env K H gd' lv c₁ p₁ kp :: fs) s₂) (fun _ _ => False) s₁) (fun _ _ => False) s)
    (ht : ∀ v, letOwnedTupleGo target it v = pure () := by intro _; rfl) :
    Seg (model prog w) A R Y n s₀ (.forLoop target it body [] env) ((model prog w).den (.forLoop target it body [] env)) (ownFrame env K H gd' lv c₁ p₁ kp :: fs) s := by
  show Seg _ A R Y n s₀ _ ((forTurn target it body [] env).onRaise (fun x => do noteFrame x env; theTreesLotGoes x)) _ s
  unfold forTurn
  rw [Sem.onRaise_eq_wrap]
  refine seg_bind_wrap (wpAny_standAt ?_)
  obtain ⟨dp, fr, gd, un, e, h1, h2⟩ := o.is
  refine seg_bind_wrap ?_
  rw [e]
  refine wpAny_onRaise (wpAny_mono (h dp fr gd un h1 h2) (fun r s₁ h₁ => ?_) fun _ _ x => x.elim)
  cases r with
  | none =>
    show Seg _ A R Y n s₀ _ (.pure (.again (.block [] env))) _ s₁
    refine seg_again rfl ?_
    show Seg _ A R Y n s₀ _ (leafOf (.ok .next)) _ s₁
    exact seg_leaf (.ok .next) h₁
  | some v =>
    refine seg_bind_wrap (wpAny_of_eq (ht v) ?_)
    refine seg_bind_wrap ?_
    rw [e]
    refine wpAny_mono h₁ (fun _ s₂ h₂ => ?_) fun _ _ x => x.elim
    rw [Sem.bind_eq_wrap', Sem.wrap_wrap]
    rw [Sem.wrap_congr (execs body env) _ _ (K' := fun f => match f with
            | .next | .cont => .pure (.again (.forLoop target it body [] env))
            | .brk => .pure (.done .next)
            | .ret v => .pure (.done (.ret v))) (H' := (fun e => (do noteFrame e env; theTreesLotGoes e : Sem Unit).wrap (fun _ => .raise e) .raise id id))
        (fun f => by cases f <;> rfl)
        (fun e => by first | exact Sem.bind_eq_wrap _ _ | (show (do noteFrame e env; theTreesLotGoes e : Sem Unit).bind (fun _ => .raise e) = _; rw [Sem.bind_eq_wrap]))]
    exact h₂
end
end Mine
namespace Mine

/-! ## what the filter computes -/
def SW : List (Str × Str) := [("=", "#"), ("(", "["), (")", "]"), ("<", "{"), (">", "}"), ("-", "~"), ("!", "|"), ("/", "\\"), ("'", "^")].map fun p => (Str.ofString p.1, Str.ofString p.2)
def qm : Str := Str.ofString "?"
def swapOf (k : Str) : Option Str := KTD.datumAt k SW
def SWD : List (Str × KTD.Dat) := SW.map fun p => (p.1, .flat (.str p.2))

/-- the filter, with the signs kept back and the signs to come -/
def run : List Sg → List Sg → List Sg
  | bs, [] => bs
  | a :: b :: _, x :: r => if a.ch = qm ∧ b.ch = qm then (match swapOf x.ch with
      | some d => { a with ch := d } :: run [] r
      | none => a :: run [b, x] r) else a :: run [b, x] r
  | bs, x :: r => run (bs ++ [x]) r

theorem inKeys_SWD (k : Str) : KTD.inKeys k SWD = (swapOf k).isSome := by
  unfold SWD swapOf
  generalize SW = l
  induction l with
  | nil => rfl
  | cons p l ih =>
    obtain ⟨x, d⟩ := p
    show (decide (k = x) || KTD.inKeys k _) = _
    by_cases h : k = x
    · simp [KTD.datumAt, h]
    · simp [KTD.datumAt, h, ih]

theorem eachL_SW {h₀ : Heap} {k : Str} {P : Value → Prop} : ∀ (l : List (Str × Str)) (d : Str), KTD.datumAt k l = some d → (∀ t, P (.str d t)) → KTD.EachL h₀ k P (l.map fun p => (p.1, KTD.Dat.flat (.str p.2)))
  | [], d, e, _ => by simp [KTD.datumAt] at e
  | [(x, d')], d, e, hp => by
    intro hx
    have e' : (if decide (k = x) = true then some d' else KTD.datumAt k []) = some d := e
    rw [if_pos (decide_eq_true hx)] at e'; cases e'
    exact hp
  | (x, d') :: q :: l, d, e, hp => by
    have e' : (if decide (k = x) = true then some d' else KTD.datumAt k (q :: l)) = some d := e
    show if decide (k = x) = true then _ else _
    by_cases hx : k = x
    · rw [if_pos (decide_eq_true hx)] at e' ⊢; cases e'
      exact hp
    · rw [if_neg (by simp [hx])] at e' ⊢
      exact eachL_SW (q :: l) d e' hp

section
variable {prog : Program} {w : World} {A : Around} {E : Value → Shared → Prop} {s : Shared} {a : Addr} {k : Str} {tk : Tok}
/-- the written table of swaps, at an address -/
def SwapAt (h : Heap) (a : Addr) : Prop := KTD.TextTab h a SWD
theorem SwapAt.keep {h h' : Heap} {a : Addr} (x : SwapAt h a) (k : Keep h h') : SwapAt h' a := KTD.TextTab.keep x k
theorem in_swaps {Q : Value → Shared → Prop} (T : SwapAt s.heap a) (h : Q (.bool (swapOf k).isSome) { s with toks := s.toks + 1 }) : wpAny (model prog w) A (compareOp .In (.str k tk) (.ref a)) Q E s :=
  KTD.in_text (h₀ := s.heap) ⟨T, fun _ _ e => e⟩ (by rw [inKeys_SWD]; exact h)
theorem item_swaps {value slice : Expr} {Q : Value → Shared → Prop} {d : Str} (T : SwapAt s.heap a) (hd : swapOf k = some d) (h : ∀ t, Q (.str d t) { s with toks := s.toks + 1 })
    (hs : subscripted slice false (.ref a) (.str k tk) = operate [.ref a, .str k tk] (getItem (.ref a) (.str k tk)) := by with_unfolding_all rfl) :
    wpAny (model prog w) A (subscriptTail value slice (.ref a) (.str k tk)) Q E s :=
  KTD.item_textA (h₀ := s.heap) (D := SWD) ⟨T, fun _ _ e => e⟩ (by rfl) (by rw [inKeys_SWD, hd]; rfl) (eachL_SW SW d hd h) hs
end

section
variable {prog : Program} {w : World}
inductive SwM : List (Str × Value) → List (Str × Str) → Prop
  | nil : SwM [] []
  | cons {x : Str} {d : Str} {t : Tok} {l : List (Str × Value)} {m : List (Str × Str)} : SwM l m → SwM ((x, .str d t) :: l) ((x, d) :: m)
theorem rows_of {h : Heap} {es : List DictEntry} {l : List (Str × Value)} (x : Pairs (PySem.strKind prog w) es l) : ∀ {m : List (Str × Str)}, SwM l m → KTD.Rows (fun d v => KTD.Dat.At h d v) es (m.map fun p => (p.1, KTD.Dat.flat (.str p.2))) := by
  induction x with
  | nil =>
    intro m y
    generalize hl : ([] : List (Str × Value)) = l at y
    cases y with
    | nil => exact .nil
    | cons _ => cases hl
  | cons h1 h2 h3 ih =>
    intro m y
    generalize hl : _ :: _ = l at y
    cases y with
    | nil => cases hl
    | cons h4 =>
      cases hl
      obtain ⟨t, e⟩ := Value.isStrOf_shape h1
      exact .cons e (h2 ▸ PyProof.V.Flat.str _ _) (ih h4)
theorem SwapAt.of {h : Heap} {a : Addr} {o : Obj} {l : List (Str × Value)} (lo : (a == sysModules) = false) (e : h.get? a = some o) (x : Obj.IsDictOf (PySem.strKind prog w) o l) (m : SwM l SW) : SwapAt h a := by
  obtain ⟨es, ep, hc, hd, _, hp, _⟩ := x
  exact ⟨lo, o, es, ep, e, hc, hd, rows_of hp m⟩
end

/-! ## the generator's protocol -/
structure Since (N0 : Nat) (wr : List Addr) (s₀ s : Shared) : Prop where
  st : ∃ h' tk, s = { s₀ with heap := h', toks := tk }
  heap : ∀ b o, s₀.heap.get? b = some o → okB false N0 wr b o → s.heap.get? b = some o
  firm : Firm s₀.heap s.heap
  size : N0 ≤ s.heap.objs.size
theorem Since.refl {N0 : Nat} {wr : List Addr} (s : Shared) (h : N0 ≤ s.heap.objs.size) : Since N0 wr s s := ⟨⟨s.heap, s.toks, rfl⟩, fun _ _ e _ => e, fun _ _ _ e => e, h⟩
theorem Since.step {N0 : Nat} {wr : List Addr} {s₀ s : Shared} {h' : Heap} {tk : Nat} (x : Since N0 wr s₀ s) (k : ∀ b o, s.heap.get? b = some o → okB false N0 wr b o ∨ tupl o → h'.get? b = some o) (hs : N0 ≤ h'.objs.size) : Since N0 wr s₀ { s with heap := h', toks := tk } := by
  obtain ⟨⟨h₁, tk₁, rfl⟩, h2, h3, _⟩ := x
  exact ⟨⟨h', tk, rfl⟩, fun b o e hb => k b o (h2 b o e hb) (.inl hb), fun b o so e => k b o (h3 b o so e) (.inr so), hs⟩

def genR (N0 : Nat) (wr : List Addr) : GenEnd := fun n s₀ r s₁ => r = .ok (.ret .none) ∧ (n = 0 ∧ Since N0 wr s₀ s₁)
def genY (N0 : Nat) (wr cw : List Addr) (N : Nat) (Item : Nat → Value → Heap → Prop) : Protocol := fun m s₀ v s kap =>
  m + 1 ≤ N ∧ Item (N - 1 - m) v s.heap ∧ Since N0 wr s₀ s ∧ ∀ s'' : Shared, KeepBut cw s.heap s''.heap → Alive N0 cw s''.heap → kap (.send .none) s''

section
variable {prog : Program} {w : World} {A : Around} {E : Value → Shared → Prop} {s : Shared}

theorem next_genQ {a : Addr} {g n : Nat} {gs : GenState} {P : Nat → Shared → Shared → Prop} {Y : Protocol} {Q : Option Value → Shared → Prop} (hh : A.handled = none)
    (hl : s.heap.NoLimit) (hroom : A.depth < recursionLimit)
    (hg : s.heap.IsGen a g) (hgs : s.gens[g]? = some gs)
    (hgo : gs.Goes (model prog w) A.in1 (fun n s₀ r s₁ => r = .ok (.ret .none) ∧ P n s₀ s₁) Y n (.send .none) (s.setGen g .running))
    (hY : ∀ v s₁ gs', gs'.bare = true → Y (n - 1) (s.setGen g .running) v s₁ (fun r' s'' => match n with
        | 0 => False
        | m + 1 => gs'.Goes (model prog w) A.in1 (fun n s₀ r s₁ => r = .ok (.ret .none) ∧ P n s₀ s₁) Y m r' s'') → Q (some v) (s₁.setGen g gs'))
    (hP : ∀ s₁, P n (s.setGen g .running) s₁ → ∀ h', (∀ b o, s₁.heap.get? b = some o → h'.get? b = some o) → Q none { s₁.setGen g .finished with heap := h' }) :
    wpAny (model prog w) A (pyNext (.ref a)) Q E s := by
  unfold pyNext
  refine wpAny_bind (wpAny_attempt (wpAny_callSpecial?_slot (name := Str.ofString "__next__") hg.typeIs slot_gen_next
    (wpAny_call_entry slot_gen_next hg.typeIs entry_gen_next ?_ (args_gen_next _))))
  show wpAny _ A.in1 (Builtin.Generator.genWake (.ref a) (.send .none)) _ _ s
  unfold Builtin.Generator.genWake
  refine wpAny_bind (wpAny_holding (wpAny_genNumber hg (wpAny_bind (wpAny_genState hgs ?_))))
  cases gs with
  | running => exact hgo.elim
  | finished => exact hgo.elim
  | _ =>
    refine wpAny_bind (wpAny_roomToWake hl hroom ?_)
    show wpAny _ A.in1 (.resume g (.send .none) [] _) _ _ s
    refine wpAny_resumeQ hgs hgo (fun x s₁ hx => ?_) (fun v s₁ gs' hb hv => ?_)
    · obtain ⟨rfl, hp⟩ := hx
      show wpAny _ A.in1 (newExc (.type "StopIteration") [] >>= _) _ _ _
      refine wpAny_bind ?_
      simp only [newExc, newTuple]
      refine wpAny_bind (wpAny_newObj_type ?_ (by size_fits))
      refine wpAny_bind (m := firstArgMember _ _) (wpAny_of_eq (a := Value.none) (by first | rfl | (simp only [firstArgMember]; rfl)) ?_)
      refine wpAny_newObj_type ?_ (by size_fits)
      simp only [raiseNew]
      refine wpAny_bind (wpAny_bind (wpAny_handled ?_))
      first | rw [show A.in1.handled = none from hh] | rw [hh]
      refine wpAny_throw ?_
      refine wpAny_bind (wpAny_isInstance (T := "StopIteration") (b := true) ⟨_, Heap.get?_push_size _ rfl, rfl⟩ isSubtype_stop ?_)
      exact wpAny_pure (hP s₁ hp _ fun b o hb => Heap.get?_push_of_some _ (Heap.get?_push_of_some _ hb))
    · exact wpAny_pure ⟨v, rfl, wpAny_pure (hY v s₁ gs' hb hv)⟩

/-- a generator that stands, with n yields before it -/
def GenSt (prog : Program) (w : World) (A : Around) (base : Heap) (a : Addr) (g N0 : Nat) (wr cw : List Addr) (N : Nat) (Item : Nat → Value → Heap → Prop) (i : Nat) (s : Shared) : Prop :=
  s.heap.IsGen a g ∧ Keep base s.heap ∧ Alive N0 cw s.heap ∧ ∃ gs, s.gens[g]? = some gs ∧ ∀ s'' : Shared, KeepBut cw s.heap s''.heap → Alive N0 cw s''.heap → gs.Goes (model prog w) A.in1 (genR N0 wr) (genY N0 wr cw N Item) (N - i) (.send .none) s''

theorem gen_bare_set {s : Shared} {g : Nat} {x : GenState} (hx : x.bare = true) (h : AllBare s.gens) : AllBare (s.setGen g x).gens := by
  intro y hy
  show y.bare = true
  have hy' : y ∈ s.gens.setIfInBounds g x := hy
  rcases Array.mem_or_eq_of_mem_setIfInBounds hy' with h' | rfl
  · exact h y h'
  · exact hx

theorem gen_iter {base : Heap} {a : Addr} {g N0 : Nat} {wr cw : List Addr} {N : Nat} {Item : Nat → Value → Heap → Prop} (hh : A.handled = none) (hroom : A.depth < recursionLimit) (hl : base.NoLimit)
    (haw : a ∉ wr) (hac : a ∉ cw) (haN : a < N0) (hbc : ∀ b ∈ cw, base.get? b = none) (hbw : ∀ b ∈ wr, base.get? b = none) (hbN : base.objs.size ≤ N0) (hcwN : ∀ b ∈ cw, b < N0) (hcww : ∀ b ∈ cw, b ∉ wr) (hst : ∀ i v h h', Item i v h → KeepBut cw h h' → Item i v h') :
    Iter prog w A a N Item (GenSt prog w A base a g N0 wr cw N Item) false N0 wr cw where
  item := fun i s Q E hi st hQ => by
    obtain ⟨hg, hb, hz, gs, hgs, hgo⟩ := st
    obtain ⟨m, hm⟩ : ∃ m, N - i = m + 1 := ⟨N - i - 1, by omega⟩
    rw [hm] at hgo
    refine next_genQ (P := fun n s₀ s₁ => n = 0 ∧ Since N0 wr s₀ s₁) hh (hl.keeps hb) hroom hg hgs (hgo _ (fun _ _ _ e => e) hz) (fun v s₁ gs' hb' hv => ?_) (fun s₁ hp h' hk => ?_)
    · obtain ⟨hmN, hItem, ⟨⟨h₁, tk₁, rfl⟩, hk₁, hf₁, hz₁⟩, hkap⟩ := hv
      have hidx : N - 1 - (m + 1 - 1) = i := by omega
      rw [hidx] at hItem
      have hke : N - (i + 1) = m := by omega
      refine hQ v _ hItem ⟨?_, ?_, ⟨hz₁, fun b hb => let ⟨o, e⟩ := hz.2 b hb; ⟨o, hk₁ b o e (okB.low (hcwN b hb) (hcww b hb))⟩⟩, gs', setGen_self (gs := .running) (setGen_self hgs), fun s'' hal hz'' => ?_⟩ ⟨fun h => (nomatch h), hk₁, hf₁, fun hB => gen_bare_set (s := (s.setGen g .running)) hb' (gen_bare_set rfl hB), rfl, rfl⟩
      · obtain ⟨o, nm, qn, ho, r⟩ := hg
        exact ⟨o, nm, qn, hk₁ a o ho (okB.low haN haw), r⟩
      · exact fun b o e => hk₁ b o (hb b o e) (okB.low (Nat.lt_of_lt_of_le (Heap.lt_size e) hbN) fun q => by rw [hbw b q] at e; cases e)
      · rw [hke]; exact hkap s'' hal hz''
    · exact absurd hp.1 (Nat.succ_ne_zero m)
  done := fun s Q E st hQ => by
    obtain ⟨hg, hb, hz, gs, hgs, hgo⟩ := st
    rw [Nat.sub_self] at hgo
    refine next_genQ (P := fun n s₀ s₁ => n = 0 ∧ Since N0 wr s₀ s₁) hh (hl.keeps hb) hroom hg hgs (hgo _ (fun _ _ _ e => e) hz) (fun v s₁ gs' hb' hv => ?_) (fun s₁ hp h' hk => ?_)
    · obtain ⟨_, _, hsn, hkap⟩ := hv
      exact False.elim (hkap s₁ (fun _ _ _ e => e) ⟨hsn.size, fun b hb => let ⟨o, e⟩ := hz.2 b hb; ⟨o, hsn.heap b o e (okB.low (hcwN b hb) (hcww b hb))⟩⟩)
    · obtain ⟨_, ⟨h₁, tk₁, rfl⟩, hk₁, hf₁, _⟩ := hp
      exact hQ _ ⟨fun h => (nomatch h), fun b o e hb => hk _ _ (hk₁ b o e hb), fun b o so e => hk _ _ (hf₁ b o so e), fun hB => gen_bare_set (s := (s.setGen g .running)) rfl (gen_bare_set rfl hB), rfl, rfl⟩
  self := fun _ _ _ _ st hQ => wpAny_pyIter_gen st.1 hQ
  frame := fun i s h' tk st k hz => ⟨let ⟨o, nm, qn, ho, r⟩ := st.1; ⟨o, nm, qn, k a o hac ho, r⟩, fun b o e => k b o (fun q => by rw [hbc b q] at e; cases e) (st.2.1 b o e), hz rfl,
    let ⟨gs, hgs, hgo⟩ := st.2.2.2; ⟨gs, hgs, fun s'' hal hz'' => hgo s'' (k.trans hal) hz''⟩⟩
  stable := hst
end

section
variable {prog : Program} {w : World} {A : Around} {R : GenEnd} {Y : Protocol} {fs : List Frame} {env : Env} {dB uB : Nat} {c₁ : Code} {p₁ : Pos} {kp : List Value} {K : Flow → Sem Fin} {H : Value → Sem Fin} {gd' : Bool → Bool} {lv : List Value → List Value}

/-- a for of a generator, by a measure -/
theorem seg_for_inv {target : Expr} {it : Value} {body : List Stmt} (J : Nat → Nat → Shared → Shared → Prop)
    (o : OverOk A (.forLoop target it body [] env) (ownFrame env K H gd' lv c₁ p₁ kp :: fs) dB uB)
    (turn : ∀ i n s₀ s, J i n s₀ s → (∀ i' n' s₀' s', i' < i → J i' n' s₀' s' → Seg (model prog w) A R Y n' s₀' (.forLoop target it body [] env) (.pure (.again (.forLoop target it body [] env))) (ownFrame env K H gd' lv c₁ p₁ kp :: fs) s') →
      ∀ dp fr gd un, dp ≤ dB → un ≤ uB → wpAny (model prog w) { handled := none, depth := dp, frames := fr, guards := gd, units := un } (pyNext it) (fun r s₁ => match r with
      | none => Seg (model prog w) A R Y n s₀ c₁ (K .next) fs s₁
      | some v => wpAny (model prog w) { handled := none, depth := dp, frames := fr, guards := gd, units := un } (assign target env v) (fun _ s₂ =>
          Seg (model prog w) A R Y n s₀ (.forLoop target it body [] env) ((execs body env).wrap (fun f => match f with
            | .next | .cont => .pure (.again (.forLoop target it body [] env))
            | .brk => .pure (.done .next)
            | .ret v => .pure (.done (.ret v))) (fun e => (do noteFrame e env; theTreesLotGoes e : Sem Unit).wrap (fun _ => .raise e) .raise id id) id id) (ownFrame env K H gd' lv c₁ p₁ kp :: fs) s₂) (fun _ _ => False) s₁) (fun _ _ => False) s)
    (hq : (Code.forLoop target it body [] env).quiet = true := by rfl)
    (ht : ∀ v, letOwnedTupleGo target it v = pure () := by intro _; rfl) :
    ∀ i n s₀ s, J i n s₀ s → Seg (model prog w) A R Y n s₀ (.forLoop target it body [] env) ((model prog w).den (.forLoop target it body [] env)) (ownFrame env K H gd' lv c₁ p₁ kp :: fs) s := by
  intro i
  induction i using Nat.strongRecOn with
  | _ i ih =>
    intro n s₀ s hJ
    exact seg_forLoop o (turn i n s₀ s hJ fun i' n' s₀' s' hlt hJ' => seg_again hq (ih i' hlt n' s₀' s' hJ')) ht

/-- calling a generator def, all facts told of the base -/
theorem enterGen {A : Around} {s : Shared} {base : Heap} {K : Frag} {m : Str → Option Value} {R : Result → Shared → Prop} {name qual : Str} {params : Arguments} {body : List Stmt} {scope : Scope} {dV kV doc pm cdv ct oc : Value} {an od : Option Addr} {osl : Array (Option Value)} {f : Addr} {args : Args} {binds : List (Str × Value)}
    (O : Over base s.heap) (X : K.In base) (hlim : base.NoLimit)
    (ho : K.lookup f = some ⟨oc, od, .func (fnOf name qual params body scope dV kV doc pm an cdv ct), osl⟩) (hcd : codeIn K cdv qual = true) (hroom : A.depth < recursionLimit)
    (hbind : BindsTo s (fnOf name qual params body scope dV kV doc pm an cdv ct) args binds) (hloc : ∀ y ∈ binds, scope.names.lookup y.1 = some .local)
    (hm : ∀ y, binds.reverse.lookup y = m y)
    (h : ∀ L' a h₁ tk, s.heap.get? L' = none → s.heap.objs.size ≤ L' → L' < a → h₁.objs.size = a + 1 → Keep s.heap h₁ → Fr base L' h₁ m → h₁.IsGen a s.gens.size →
      R (.ok (.ret (.ref a))) { s with heap := h₁, toks := tk, gens := s.gens.push (.fresh (.func body (envOf qual scope L' f cdv))) })
    (hco : scope.isCoroutine = false) (hgen : scope.isGenerator = true) (hk : scope.kind = .function)
    (hcell : ∀ x ∈ scope.names, x.2 ≠ .cell) : codeAny (model prog w) A (.call (.ref f) args) R s := by
  refine codeAny_call_generator (fd := fnOf name qual params body scope dV kV doc pm an cdv ct) (body := body) hroom (O.keep _ _ (X _ _ ho)) rfl hco hgen rfl (codeRec_of (X.keeps O.keep) hcd) (hbind _ _ _ _ ?_)
  refine wpAny_newFunctionEnv hcell hloc (fun h₀ hns₀ hsb₀ => ?_) hk
  have keep₀ : Keep s.heap h₀ := fun b o e => hsb₀.extBut b o (Nat.ne_of_lt (Heap.lt_size e)) (Heap.get?_push_of_some _ e)
  refine ⟨(hlim.keeps O.keep).keeps keep₀, ?_⟩
  have hsz : h₀.objs.size = s.heap.objs.size + 1 := by rw [hsb₀.1, Heap.size_push]
  have up : Keep s.heap (h₀.push { cls := .type "generator", data := .fields #[.int s.gens.size 0, .str name (s.toks + binds.length), .str qual (s.toks + binds.length + 1)] }) := fun b o e => Heap.get?_push_of_some _ (keep₀ b o e)
  exact h s.heap.objs.size h₀.objs.size _ _ (Heap.get?_none_of_le (Nat.le_refl _)) (Nat.le_refl _) (by rw [hsz]; exact Nat.lt_succ_self _) (by rw [Heap.size_push]) up
    ⟨((funext hm : (fun y => binds.reverse.lookup y) = m) ▸ hns₀).push _, fun b o e => up b o (O.keep b o e), O.size⟩ ⟨_, _, _, Heap.get?_push_size _ rfl, rfl, rfl, rfl⟩
end
end Mine
namespace Mine

abbrev gStored : List Str := [Str.ofString "char", Str.ofString "loc"]
abbrev gMap (bf tm It : Addr) (u : Str → Option Value) : Str → Option Value := fun y =>
  if gStored.contains y then u y else if y = Str.ofString "buf" then some (.ref bf) else if y = Str.ofString "tri_map" then some (.ref tm) else if y = Str.ofString "characters" then some (.ref It) else none

theorem gMap_of {base h : Heap} {L bf tm It : Addr} {m : Str → Option Value} (F : Fr base L h m) (e : ∀ y, gStored.contains y = false → m y = if y = Str.ofString "buf" then some (.ref bf) else if y = Str.ofString "tri_map" then some (.ref tm) else if y = Str.ofString "characters" then some (.ref It) else none) :
    ∃ u, Fr base L h (gMap bf tm It u) := ⟨m, Eq.mp (congrArg (Fr base L h) (reM e)) F⟩

/-- the generator's constant addresses -/
structure GA where
  (base : Heap) (N0 : Nat) (Lg It cl bf tm : Addr) (av : List Addr) (cs : List Addr) (sgs : List Sg)
def GA.P (X : GA) (b : Addr) : Prop := X.base.get? b = none ∧ b ∉ X.av ∧ b ≠ X.Lg ∧ b ≠ X.It
theorem GA.P.out {X : GA} {b : Addr} (p : X.P b) : X.base.get? b = none ∧ b ∉ X.av ++ [X.Lg, X.It] := ⟨p.1, fun q => by
  rcases List.mem_append.mp q with q | q
  · exact p.2.1 q
  · simp only [List.mem_cons, List.not_mem_nil, or_false] at q
    exact q.elim p.2.2.1 p.2.2.2⟩
structure GA.Ok (X : GA) : Prop where
  bfN : X.N0 ≤ X.bf
  bfb : X.base.get? X.bf = none
  ItL : X.It ≠ X.Lg
  Itb : X.It ≠ X.bf
  clL : X.cl ≠ X.Lg
  clb : X.cl ≠ X.bf
  clI : X.cl ≠ X.It
  tmL : X.tm ≠ X.Lg
  tmb : X.tm ≠ X.bf
  bfL : X.bf ≠ X.Lg
  tmI : X.tm ≠ X.It
  len : X.cs.length = X.sgs.length
  base : ∀ b o, X.base.get? b = some o → b ≠ X.It
  av : ∀ b, b ∈ X.av → b < X.N0
  avL : X.Lg ∉ X.av
  avI : X.It ∉ X.av

/-- what stands between the generator's steps -/
structure GK (X : GA) (pos : Nat) (s₀ s : Shared) : Prop where
  since : Since X.N0 [X.Lg, X.It] s₀ s
  it : s.heap.IsListIter X.It X.cl pos
  lst : s.heap.IsList X.cl (X.cs.map Value.ref).toArray
  chars : ∀ (j : Nat) c g, X.cs[j]? = some c → X.sgs[j]? = some g → CharP X.P s.heap c g
  swap : SwapAt s.heap X.tm
  buf : ∃ o, s.heap.get? X.bf = some o ∧ ¬ solid o
  ns : ∃ m, s.heap.Ns X.Lg m
  alive : ∀ b ∈ X.av, ∃ o, s.heap.get? b = some o

theorem rowsAny {h h' : Heap} : ∀ (m : List (Str × Str)) {l : List DictEntry}, KTD.Rows (KTD.Dat.At h) l (m.map fun p => (p.1, KTD.Dat.flat (.str p.2))) → KTD.Rows (KTD.Dat.At h') l (m.map fun p => (p.1, KTD.Dat.flat (.str p.2)))
  | [], _, x => by cases x; exact .nil
  | p :: m, _, x => by cases x with | cons h1 h2 h3 => exact .cons h1 h2 (rowsAny m h3)
theorem SwapAt.keep1 {h h' : Heap} {a : Addr} (x : SwapAt h a) (k : ∀ o, h.get? a = some o → h'.get? a = some o) : SwapAt h' a := by
  obtain ⟨lo, o, es, ep, e, hc, hd, hr⟩ := x
  refine ⟨lo, o, es, ep, k _ e, hc, hd, ?_⟩
  exact rowsAny SW hr

theorem GK.notLg {X : GA} {pos : Nat} {s₀ s : Shared} (K : GK X pos s₀ s) {b : Addr} {o : Obj} (e : s.heap.get? b = some o) (so : tupl o) : b ≠ X.Lg := by
  rintro rfl
  obtain ⟨m, oL, es, ep, eL, dL, _⟩ := K.ns
  rw [e] at eL; cases eL
  obtain ⟨its, k, dq⟩ := so.2
  rw [dL] at dq; cases dq
theorem GK.notBf {X : GA} {pos : Nat} {s₀ s : Shared} (K : GK X pos s₀ s) {b : Addr} {o : Obj} (e : s.heap.get? b = some o) (so : solid o) : b ≠ X.bf := by
  rintro rfl
  obtain ⟨o', eL, ns⟩ := K.buf
  rw [e] at eL; cases eL
  exact ns so
theorem GK.notIt {X : GA} {pos : Nat} {s₀ s : Shared} (K : GK X pos s₀ s) {b : Addr} {o : Obj} (e : s.heap.get? b = some o) (so : solid o) : b ≠ X.It := by
  rintro rfl
  obtain ⟨o', e', c', _⟩ := K.it
  rw [e] at e'; cases e'
  rcases so with ⟨a, q⟩ | q | q <;> (rw [c'] at q; exact absurd q (by simp))

/-- a step that turns the frame, the kept list and the iterator -/
theorem GK.step {X : GA} {pos pos' : Nat} {s₀ s : Shared} (ok : X.Ok) (K : GK X pos s₀ s) {h' : Heap} {tk : Nat} {m' : Str → Option Value} (kb : KeepBut [X.Lg, X.bf, X.It] s.heap h') (it : h'.IsListIter X.It X.cl pos') (buf : ∃ o, h'.get? X.bf = some o ∧ ¬ solid o) (ns : h'.Ns X.Lg m') : GK X pos' s₀ { s with heap := h', toks := tk } := by
  have kb' : ∀ b o, b ≠ X.Lg → b ≠ X.bf → b ≠ X.It → s.heap.get? b = some o → h'.get? b = some o := fun b o h1 h2 h3 e => kb b o (by simp [h1, h2, h3]) e
  refine ⟨K.since.step (fun b o e hb => ?_) (Nat.le_trans ok.bfN (Nat.le_of_lt (Heap.lt_size buf.choose_spec.1))), it, ?_, fun j c g e1 e2 => (K.chars j c g e1 e2).keep fun b o p so e => kb' b o p.2.2.1 (K.notBf e so) (K.notIt e so) e, K.swap.keep1 fun o e => kb' _ o ok.tmL ok.tmb ok.tmI e, buf, ⟨_, ns⟩, fun b hb => let ⟨o, e⟩ := K.alive b hb; ⟨o, kb' b o (fun q => ok.avL (q ▸ hb)) (fun q => absurd (ok.av b hb) (Nat.not_lt.mpr (q ▸ ok.bfN))) (fun q => ok.avI (q ▸ hb)) e⟩⟩
  · rcases hb with hb | so
    · rcases hb with ⟨q, _⟩ | ⟨hw, hb⟩
      · cases q
      · simp only [List.mem_cons, List.not_mem_nil, or_false, not_or] at hw
        refine kb' b o hw.1 (fun q => ?_) hw.2 e
        rcases hb with so | lt
        · exact K.notBf e so q
        · exact absurd ok.bfN (Nat.not_le.mpr (q ▸ lt))
    · exact kb' b o (K.notLg e so) (K.notBf e so.solid) (K.notIt e so.solid) e
  · obtain ⟨o, e, r⟩ := K.lst
    exact ⟨o, kb' _ _ ok.clL ok.clb ok.clI e, r⟩

theorem GK.charKeep {X : GA} {pos : Nat} {s₀ s : Shared} (K : GK X pos s₀ s) {h' : Heap} (kb : KeepBut [X.Lg, X.bf, X.It] s.heap h') {c : Addr} {g : Sg} (x : CharP X.P s.heap c g) : CharP X.P h' c g :=
  x.keep fun b o p so e => kb b o (by simp [p.2.2.1, K.notBf e so, K.notIt e so]) e
theorem GK.locKeep {X : GA} {pos : Nat} {s₀ s : Shared} (K : GK X pos s₀ s) {h' : Heap} (kb : KeepBut [X.Lg, X.bf, X.It] s.heap h') {l : Addr} {f : Str} {row col : Int} (x : LocP X.P s.heap l f row col) : LocP X.P h' l f row col :=
  x.keep fun b o p so e => kb b o (by simp [p.2.2.1, K.notBf e so, K.notIt e so]) e
theorem GK.walk {X : GA} {pos : Nat} {s₀ s : Shared} (ok : X.Ok) (K : GK X pos s₀ s) {h' : Heap} {tk : Nat} {m' : Str → Option Value} {its : Array Value} {e : Nat} (kb : KeepBut [X.Lg, X.bf] s.heap h') (buf : h'.get? X.bf = some (listOf its e)) (ns : h'.Ns X.Lg m') : GK X pos s₀ { s with heap := h', toks := tk } :=
  K.step ok (kb.mono (by simp)) (let ⟨o, e, r⟩ := K.it; ⟨o, kb _ _ (by simp [ok.ItL, ok.Itb]) e, r⟩) ⟨_, buf, not_solid_list⟩ ns

structure GA.Away (X : GA) (cw : List Addr) : Prop where
  av : ∀ b, b ∈ cw ↔ b ∈ X.av
  It : X.It ∉ cw
  cl : X.cl ∉ cw
  Lg : X.Lg ∉ cw
  tm : X.tm ∉ cw
  base : ∀ b ∈ cw, X.base.get? b = none
theorem GA.Away.bf {X : GA} {cw : List Addr} (a : X.Away cw) (ok : X.Ok) : X.bf ∉ cw := fun q => absurd (ok.av _ ((a.av _).mp q)) (Nat.not_lt.mpr ok.bfN)

theorem GK.resume {X : GA} {pos : Nat} {s₀ s s' : Shared} {cw : List Addr} (ok : X.Ok) (a : X.Away cw) (K : GK X pos s₀ s) (kb : KeepBut cw s.heap s'.heap) (hz : Alive X.N0 cw s'.heap) : GK X pos s' s' :=
  ⟨Since.refl _ hz.1, let ⟨o, e, r⟩ := K.it; ⟨o, kb _ _ a.It e, r⟩, let ⟨o, e, r⟩ := K.lst; ⟨o, kb _ _ a.cl e, r⟩, fun j c g e1 e2 => (K.chars j c g e1 e2).keep fun b o p _ e => kb b o (fun q => p.2.1 ((a.av b).mp q)) e,
    K.swap.keep1 fun o e => kb _ o a.tm e, let ⟨o, x, z⟩ := K.buf; ⟨o, kb _ _ (a.bf ok) x, z⟩, let ⟨m, x⟩ := K.ns; ⟨m, x.at' fun o e => kb _ o a.Lg e⟩, fun b hb => hz.2 b ((a.av b).mpr hb)⟩
theorem Fr.resume {X : GA} {h h' : Heap} {cw : List Addr} {m : Str → Option Value} (a : X.Away cw) (F : Fr X.base X.Lg h m) (kb : KeepBut cw h h') : Fr X.base X.Lg h' m :=
  ⟨F.ns.at' fun o e => kb _ o a.Lg e, fun b o e => kb b o (fun q => by rw [a.base b q] at e; cases e) (F.keep b o e), F.above⟩
theorem CharP.resume {X : GA} {h h' : Heap} {cw : List Addr} {c : Addr} {g : Sg} (a : X.Away cw) (x : CharP X.P h c g) (kb : KeepBut cw h h') : CharP X.P h' c g := x.keep fun b o p _ e => kb b o (fun q => p.2.1 ((a.av b).mp q)) e

theorem split2 {bcs : List Addr} {bsg : List Sg} (h : bcs.length = bsg.length) (h2 : bsg.length ≤ 2) : (bcs = [] ∧ bsg = []) ∨ (∃ a ga, bcs = [a] ∧ bsg = [ga]) ∨ ∃ a b ga gb, bcs = [a, b] ∧ bsg = [ga, gb] := by
  rcases bsg with _ | ⟨ga, _ | ⟨gb, _ | ⟨gc, r⟩⟩⟩
  · exact .inl ⟨List.length_eq_zero_iff.mp h, rfl⟩
  · rcases bcs with _ | ⟨a, _ | ⟨b, r⟩⟩
    · simp at h
    · exact .inr (.inl ⟨a, ga, rfl, rfl⟩)
    · simp at h
  · rcases bcs with _ | ⟨a, _ | ⟨b, _ | ⟨c, r⟩⟩⟩
    · simp at h
    · simp at h
    · exact .inr (.inr ⟨a, b, ga, gb, rfl, rfl⟩)
    · simp at h
  · simp at h2

theorem drop_head {l : List Sg} {n : Nat} {g : Sg} {r : List Sg} (h : l.drop (l.length - n) = g :: r) (hn : n ≤ l.length) : ∃ n', n = n' + 1 ∧ l[l.length - 1 - n']? = some g ∧ l.drop (l.length - n') = r := by
  have h1 := congrArg List.length h
  simp only [List.length_drop, List.length_cons] at h1
  refine ⟨n - 1, by omega, ?_, ?_⟩
  · have e : l.length - 1 - (n - 1) = l.length - n + 0 := by omega
    rw [e, ← List.getElem?_drop, h]; rfl
  · have e : l.length - (n - 1) = l.length - n + 1 := by omega
    rw [e, ← List.drop_drop, h]; rfl

def GJ (X : GA) (i n : Nat) (s₀ s : Shared) : Prop :=
  ∃ (bcs : List Addr) (bsg : List Sg) (u : Str → Option Value) (e pos : Nat), i + pos = X.sgs.length ∧ GK X pos s₀ s ∧ Fr X.base X.Lg s.heap (gMap X.bf X.tm X.It u) ∧ s.heap.get? X.bf = some (listOf (bcs.map Value.ref).toArray e) ∧ bcs.length = bsg.length ∧ bsg.length ≤ 2 ∧
    (∀ (j : Nat) c g, bcs[j]? = some c → bsg[j]? = some g → CharP X.P s.heap c g) ∧ n ≤ (run [] X.sgs).length ∧ (run [] X.sgs).drop ((run [] X.sgs).length - n) = run bsg (X.sgs.drop pos)

theorem run_swap {a b x : Sg} {r : List Sg} {d : Str} (h1 : a.ch = qm) (h2 : b.ch = qm) (h3 : swapOf x.ch = some d) : run [a, b] (x :: r) = { a with ch := d } :: run [] r := by
  rw [run, if_pos ⟨h1, h2⟩, h3]
theorem run_keep {a b x : Sg} {r : List Sg} (h : ¬ (a.ch = qm ∧ b.ch = qm ∧ (swapOf x.ch).isSome = true)) : run [a, b] (x :: r) = a :: run [b, x] r := by
  rw [run]
  by_cases q : a.ch = qm ∧ b.ch = qm
  · rw [if_pos q]
    cases q3 : swapOf x.ch with
    | none => rfl
    | some d => exact absurd ⟨q.1, q.2, by rw [q3]; rfl⟩ h
  · rw [if_neg q]

/-- what the end of a turn without a yield, or a yield, leaves -/
theorem GJ.mk {X : GA} {n : Nat} {s₀ s : Shared} {u : Str → Option Value} (bcs : List Addr) (bsg : List Sg) (e pos : Nat) (hp : pos ≤ X.sgs.length) (K : GK X pos s₀ s) (F : Fr X.base X.Lg s.heap (gMap X.bf X.tm X.It u)) (eb : s.heap.get? X.bf = some (listOf (bcs.map Value.ref).toArray e)) (hl : bcs.length = bsg.length) (h2 : bsg.length ≤ 2)
    (hc : ∀ (j : Nat) c g, bcs[j]? = some c → bsg[j]? = some g → CharP X.P s.heap c g) (hn : n ≤ (run [] X.sgs).length) (hd : (run [] X.sgs).drop ((run [] X.sgs).length - n) = run bsg (X.sgs.drop pos)) : GJ X (X.sgs.length - pos) n s₀ s :=
  ⟨bcs, bsg, u, e, pos, by omega, K, F, eb, hl, h2, hc, hn, hd⟩

/-- the second loop: what was kept back -/
structure GL (X : GA) (It2 lb : Addr) (bcs : List Addr) (bsg : List Sg) (pos : Nat) (s₀ s : Shared) : Prop where
  since : Since X.N0 [X.Lg, X.It] s₀ s
  ns : ∃ m, s.heap.Ns X.Lg m
  alive : ∀ b ∈ X.av, ∃ o, s.heap.get? b = some o
  it : s.heap.IsListIter It2 lb pos
  lst : s.heap.IsList lb (bcs.map Value.ref).toArray
  chars : ∀ (j : Nat) c g, bcs[j]? = some c → bsg[j]? = some g → CharP X.P s.heap c g
theorem GL.notIt {X : GA} {It2 lb : Addr} {bcs : List Addr} {bsg : List Sg} {pos : Nat} {s₀ s : Shared} (K : GL X It2 lb bcs bsg pos s₀ s) {b : Addr} {o : Obj} (e : s.heap.get? b = some o) (so : solid o) : b ≠ It2 := by
  rintro rfl
  obtain ⟨o', e', c', _⟩ := K.it
  rw [e] at e'; cases e'
  rcases so with ⟨a, q⟩ | q | q <;> (rw [c'] at q; exact absurd q (by simp))
theorem GL.notLg {X : GA} {It2 lb : Addr} {bcs : List Addr} {bsg : List Sg} {pos : Nat} {s₀ s : Shared} (K : GL X It2 lb bcs bsg pos s₀ s) {b : Addr} {o : Obj} (e : s.heap.get? b = some o) (so : tupl o) : b ≠ X.Lg := by
  rintro rfl
  obtain ⟨m, oL, es, ep, eL, dL, _⟩ := K.ns
  rw [e] at eL; cases eL
  obtain ⟨its, k, dq⟩ := so.2
  rw [dL] at dq; cases dq
theorem GL.step {X : GA} {It2 lb : Addr} {bcs : List Addr} {bsg : List Sg} {pos pos' : Nat} {s₀ s : Shared} {h' : Heap} {tk : Nat} {m' : Str → Option Value} (K : GL X It2 lb bcs bsg pos s₀ s) (hN : X.N0 ≤ It2) (lL : lb ≠ X.Lg) (lI : lb ≠ It2) (hav : ∀ b ∈ X.av, b < X.N0 ∧ b ≠ X.Lg) (kb : KeepBut [X.Lg, It2] s.heap h') (it : h'.IsListIter It2 lb pos') (ns : h'.Ns X.Lg m') :
    GL X It2 lb bcs bsg pos' s₀ { s with heap := h', toks := tk } := by
  have kb' : ∀ b o, b ≠ X.Lg → b ≠ It2 → s.heap.get? b = some o → h'.get? b = some o := fun b o h1 h2 e => kb b o (by simp [h1, h2]) e
  refine ⟨K.since.step (fun b o e hb => ?_) (Nat.le_trans hN (Nat.le_of_lt (Heap.lt_size it.choose_spec.1))), ⟨_, ns⟩, fun b hb => let ⟨o, e⟩ := K.alive b hb; ⟨o, kb' b o (hav b hb).2 (fun q => absurd (hav b hb).1 (Nat.not_lt.mpr (q ▸ hN))) e⟩, it, let ⟨o, e, r⟩ := K.lst; ⟨o, kb' _ _ lL lI e, r⟩,
    fun j c g e1 e2 => (K.chars j c g e1 e2).keep fun b o p so e => kb' b o p.2.2.1 (K.notIt e so) e⟩
  rcases hb with hb | so
  · rcases hb with ⟨q, _⟩ | ⟨hw, hb⟩
    · cases q
    · simp only [List.mem_cons, List.not_mem_nil, or_false, not_or] at hw
      refine kb' b o hw.1 (fun q => ?_) e
      rcases hb with so | lt
      · exact K.notIt e so q
      · exact absurd hN (Nat.not_le.mpr (q ▸ lt))
  · exact kb' b o (K.notLg e so) (K.notIt e so.solid) e
theorem GL.resume {X : GA} {It2 lb : Addr} {bcs : List Addr} {bsg : List Sg} {pos : Nat} {s₀ s s' : Shared} {cw : List Addr} (K : GL X It2 lb bcs bsg pos s₀ s) (a : X.Away cw) (h1 : It2 ∉ cw) (h2 : lb ∉ cw) (kb : KeepBut cw s.heap s'.heap) (hz : Alive X.N0 cw s'.heap) : GL X It2 lb bcs bsg pos s' s' :=
  ⟨Since.refl _ hz.1, let ⟨m, x⟩ := K.ns; ⟨m, x.at' fun o e => kb _ o a.Lg e⟩, fun b hb => hz.2 b ((a.av b).mpr hb), let ⟨o, e, r⟩ := K.it; ⟨o, kb _ _ h1 e, r⟩, let ⟨o, e, r⟩ := K.lst; ⟨o, kb _ _ h2 e, r⟩, fun j c g e1 e2 => CharP.resume a (K.chars j c g e1 e2) kb⟩

def GJ2 (X : GA) (It2 lb : Addr) (bcs : List Addr) (bsg : List Sg) (i n : Nat) (s₀ s : Shared) : Prop :=
  ∃ (m : Str → Option Value) (pos : Nat), i + pos = bsg.length ∧ GL X It2 lb bcs bsg pos s₀ s ∧ Fr X.base X.Lg s.heap m ∧ n ≤ (run [] X.sgs).length ∧ (run [] X.sgs).drop ((run [] X.sgs).length - n) = bsg.drop pos
theorem run_nil (bs : List Sg) : run bs [] = bs := by cases bs <;> simp [run]
theorem not_solid_iter {fs : Array Value} : ¬ solid ({ cls := .type "list_iterator", data := .fields fs } : Obj) := by
  rintro (⟨a, q⟩ | q | q) <;> exact absurd q (by simp)
theorem zero_left {l : List Sg} {n : Nat} (h : l.drop (l.length - n) = []) (hn : n ≤ l.length) : n = 0 := by
  have := congrArg List.length h
  simp only [List.length_drop, List.length_nil] at this
  omega

section
variable {prog : Program} {w : World} {A : Around} {s₀ : Shared} {c : Code} {fs : List Frame} {s : Shared} {env : Env} {dB uB n N0 N : Nat} {wr cw : List Addr} {Item : Nat → Value → Heap → Prop}
  {K : Flow → Sem Fin} {H : Value → Sem Fin} {gd' : Bool → Bool} {lv : List Value → List Value}

def TestEnd (c : Prop) (s : Shared) (b : Bool) (s' : Shared) : Prop := (b = true ↔ c) ∧ ∃ tk, s' = { s with toks := tk }
theorem TestEnd.mk' {c : Prop} {s : Shared} {b : Bool} {tk : Nat} (h : b = true ↔ c) : TestEnd c s b { heap := s.heap, gens := s.gens, drawn := s.drawn, toks := tk, os := s.os } := ⟨h, tk, rfl⟩
theorem wpAny_test {M : Model} {B : Around} {t : Sem Bool} {Q : Bool → Shared → Prop} {E : Value → Shared → Prop} (c : Prop) (h : wpAny M B t (TestEnd c s) (fun _ _ => False) s) (k : ∀ b tk, (b = true ↔ c) → Q b { s with toks := tk }) : wpAny M B t Q E s :=
  wpAny_mono h (fun b s' ⟨h1, tk, h2⟩ => h2 ▸ k b tk h1) fun _ _ x => x.elim

/-- what a yield hands on -/
structure YieldOut (M : Model) (A : Around) (N0 : Nat) (wr cw : List Addr) (N : Nat) (Item : Nat → Value → Heap → Prop) (n : Nat) (s₀ : Shared) (T : Code) (t : Sem Fin) (fs : List Frame) (v : Value) (s' : Shared) : Prop where
  room : n + 1 ≤ N
  item : Item (N - 1 - n) v s'.heap
  since : Since N0 wr s₀ s'
  go : ∀ s'' : Shared, KeepBut cw s'.heap s''.heap → Alive N0 cw s''.heap → Seg M A (genR N0 wr) (genY N0 wr cw N Item) n s'' T t fs s''

theorem seg_YieldB {e : Expr} {ypos pos : Pos} (o : OverOk A c fs dB uB) (hfs : splitAtGen fs = none) (hgd : gd' false = false) (hfg : fs.any Frame.guarded = false)
    (h : ∀ dp fr gd un, dp ≤ dB → un ≤ uB → wpAny (model prog w) { handled := none, depth := dp, frames := fr, guards := gd, units := un } (eval e env) (YieldOut (model prog w) A N0 wr cw N Item n s₀ c (K .next) fs) (fun _ _ => False) s)
    (hco : env.scope.isCoroutine = false := by rfl) (hi : interactive env = false := by rfl) :
    Seg (model prog w) A (genR N0 wr) (genY N0 wr cw N Item) (n + 1) s₀ c ((exec (.Expr (.Yield (some e) ypos) pos) env).wrap K H gd' lv) fs s := by
  refine seg_Expr_Yield hfs hgd hfg ?_ hco hi
  obtain ⟨dp, fr, gd, un, e, h1, h2⟩ := o.is
  rw [e]
  refine wpAny_mono (h dp fr gd un h1 h2) (fun v s' y kap hk => ?_) fun _ _ x => x.elim
  exact ⟨y.room, y.item, y.since, fun s'' kb hz => hk _ _ (y.go s'' kb hz)⟩
end
end Mine
namespace Mine

section
variable {w : World} {A : Around} {s : Shared} {base : Heap} {loose : List Str} {mean : ExcName → Option Value} {mg mb : Str → Option Value} {Q E : Value → Shared → Prop} {It cl : Addr} {cs : List Addr} {sgs : List Sg} {n : Nat}

/-- a generator of signs, as it stands in s -/
def FiltIt (w : World) (base : Heap) (a : Addr) (wr : List Addr) (sgs : List Sg) (s : Shared) : Prop :=
  ∀ (Ad : Around), Ad.handled = none → Ad.depth ≤ 315 → Ad.units ≤ 70 →
    ∀ (cw av : List Addr) (s₃ : Shared), Keep s.heap s₃.heap → s₃.gens = s.gens → (∀ b ∈ cw, s.heap.get? b = none ∧ b < s₃.heap.objs.size) → (∀ b ∈ av, b ∈ cw) → (∀ b ∈ cw, ∃ o, s₃.heap.get? b = some o) →
      ∃ St, Iter PySem.Challenge.rw_rk0003_01.row.prog w Ad a sgs.length (ItemAt base sgs (av ++ cw ++ wr)) St false s₃.heap.objs.size wr cw ∧ St 0 s₃

theorem FiltIt.later {a : Addr} {wr : List Addr} {s' : Shared} (x : FiltIt w base a wr sgs s) (k : Keep s.heap s'.heap) (g : s'.gens = s.gens) : FiltIt w base a wr sgs s' := by
  intro Ad h1 h2 h3 cw av s₃ k₃ g₃ hcw hav hal
  refine x Ad h1 h2 h3 cw av s₃ (fun b o e => k₃ _ _ (k _ _ e)) (g₃.trans g) (fun b hb => ⟨?_, (hcw b hb).2⟩) hav hal
  cases q : s.heap.get? b with
  | none => rfl
  | some o => have := (hcw b hb).1; rw [k _ _ q] at this; cases this

theorem FiltIt.src {a g : Nat} {wr : List Addr} {Ad : Around} (x : FiltIt w base a wr sgs s) (hG : s.heap.IsGen a g) (hwr : ∀ b ∈ wr, ∃ o, s.heap.get? b = some o) (h1 : Ad.handled = none) (h2 : Ad.depth ≤ 315) (h3 : Ad.units ≤ 70) : SrcOk PySem.Challenge.rw_rk0003_01.row.prog w Ad base a false wr sgs s := by
  intro s₂ Q' E' k₂ g₂ d₂ o₂ hQ
  obtain ⟨oG, nm, qn, eG, _⟩ := id hG
  refine wpAny_pyIter_gen (hG.keeps k₂) ?_
  refine hQ a wr s₂ (fun _ _ e => e) rfl rfl rfl (fun b hb => let ⟨o, e⟩ := hwr b hb; Heap.lt_size (k₂ _ _ e)) (fun b hb hn => absurd hb hn) ⟨_, k₂ _ _ eG⟩ (.inl ⟨_, eG⟩) ?_
  intro cw av s₃ k₃ g₃ hcw hav hal
  exact x Ad h1 h2 h3 cw av s₃ (fun b o e => k₃ _ _ (k₂ _ _ e)) (g₃.trans g₂) (fun b hb => ⟨(hcw b hb).1, (hcw b hb).2.2⟩) hav hal

theorem z0 : (0 : Int) ≤ 0 ∧ (0 : Int) < 2 ^ 63 := by decide
theorem z1 : (0 : Int) ≤ 1 ∧ (1 : Int) < 2 ^ 63 := by decide
theorem z2 : (0 : Int) ≤ 2 ∧ (2 : Int) < 2 ^ 63 := by decide
theorem item_here {prog : Program} {w : World} {A : Around} {E : Value → Shared → Prop} {s : Shared} {value slice : PySem.Expr} {l : Addr} {vs : List Value} {k : Int} {u : Tok} {v : Value} {Q : Value → Shared → Prop} (hl : s.heap.IsList l vs.toArray) (h0 : 0 ≤ k ∧ k < 2 ^ 63) (hx : vs[k.toNat]? = some v) (hs : subscripted slice false (.ref l) (.int k u) = operate [.ref l, .int k u] (getItem (.ref l) (.int k u))) (h : Q v s) :
    wpAny (model prog w) A (subscriptTail value slice (.ref l) (.int k u)) Q E s := item_litK hl h0.1 h0.2 hx h hs
local macro_rules | `(tactic| walk_at "subscriptTail Name Constant ref int") => `(tactic| ((with_reducible show wpAny _ _ (subscriptTail _ _ (Value.ref _) (Value.int _ _)) _ _ _); first
  | refine item_here (by assumption) z0 (by with_unfolding_all rfl) (by with_unfolding_all rfl) ?_
  | refine item_here (by assumption) z1 (by with_unfolding_all rfl) (by with_unfolding_all rfl) ?_
  | refine item_here (by assumption) z2 (by with_unfolding_all rfl) (by with_unfolding_all rfl) ?_))
theorem filter_spec :
   (hd.heap_39 w.params).In base → Top hd.view_39 loose mean mg mb base → Over base s.heap → A.handled = none → A.depth ≤ 310 → A.units ≤ 50 → base.get? It = none → base.get? cl = none →
   s.heap.IsListIter It cl 0 → s.heap.IsList cl (cs.map Value.ref).toArray → cs.length = sgs.length → sgs.length ≤ 100 → (∀ (j : Nat) c g, cs[j]? = some c → sgs[j]? = some g → CharP (fun b => base.get? b = none) s.heap c g) →
   (∀ a L' gs0 h' tk, Keep s.heap h' → s.heap.get? a = none → s.heap.get? L' = none → h'.IsGen a s.gens.size → (∃ o, h'.get? L' = some o) → gs0.bare = true → FiltIt w base a [L', It] (run [] sgs) { s with heap := h', toks := tk, gens := s.gens.push gs0 } → Q (.ref a) { s with heap := h', toks := tk, gens := s.gens.push gs0 }) →
   wpAny (model PySem.Challenge.rw_rk0003_01.row.prog w) A (call (.ref 49) [.ref It] []) Q E s := by
  k_fill
  intro KX T O hh hdep hun hnI hnc hI hC hlen hfit hch h
  obtain ⟨hnd, dp, fr, gd, un⟩ := A
  dsimp only at hh hdep hun
  subst hh
  refine wpAny_call ?_
  refine enterGen (binds := [(Str.ofString "characters", .ref It)]) O KX T.nolimit rfl (by k_is) (Nat.lt_of_le_of_lt hdep (by decide)) (BindsTo.of_eq rfl) (locs rfl) (fun y => (lookup_if.trans (by rw [List.lookup_nil]))) ?_ rfl rfl rfl (by decide)
  intro Lg a h₁ tk hLn hLs hLa hsz k F hG
  obtain ⟨oL, eL, hoL⟩ := LCg.ns_obj F.ns
  have han : s.heap.get? a = none := Heap.get?_none_of_le (Nat.le_of_lt (Nat.lt_of_le_of_lt hLs hLa))
  obtain ⟨oG, nm, qn, eG, cG, dG, sG⟩ := id hG
  refine h a Lg _ h₁ tk k han hLn hG ⟨_, eL⟩ rfl ?_
  rintro ⟨hnd, dA, fA, gA, uA⟩ hAh hAd hAu cw av s₃ kk g₃ hcw hav hal3
  dsimp only at hAh hAd hAu kk g₃
  subst hAh
  have kb : Keep base s₃.heap := fun b o e => kk _ _ (k _ _ (O.keep _ _ e))
  have ncw : ∀ {b : Addr} {o : Obj}, h₁.get? b = some o → b ∉ cw := fun {b o} e hm => by have := (hcw b hm).1; rw [show h₁.get? b = _ from e] at this; cases this
  have nav : ∀ {b : Addr} {o : Obj}, h₁.get? b = some o → b ∉ av ++ cw := fun {b o} e hm => by
    rcases List.mem_append.mp hm with hm | hm
    · exact ncw e (hav _ hm)
    · exact ncw e hm
  have bcw : ∀ b ∈ cw, base.get? b = none := fun b hm => by
    cases q : base.get? b with
    | none => rfl
    | some o => exact absurd hm (ncw (k _ _ (O.keep _ _ q)))
  have hbn : base.get? Lg = none := by
    cases q : base.get? Lg with
    | none => rfl
    | some o => rw [O.keep _ _ q] at hLn; cases hLn
  have hgs := (congrArg (fun x : Array GenState => x[s.gens.size]?) g₃).trans (Array.getElem?_push_size ..)
  clear g₃ h
  have hcz := fun b hm => (hcw b hm).2
  have haz := fun b hm => hcz b (hav b hm)
  obtain ⟨oI, eI, cI, dI⟩ := id hI
  obtain ⟨oC, eC, cC, nC, dC⟩ := id hC
  have lowI : It < s₃.heap.objs.size := Heap.lt_size (kk _ _ (k _ _ eI))
  have lowL : Lg < s₃.heap.objs.size := Heap.lt_size (kk _ _ eL)
  have haI : a ≠ It := by rintro rfl; rw [eI] at han; cases han
  refine ⟨_, gen_iter rfl (Nat.lt_of_le_of_lt hAd (by decide)) T.nolimit (by simp [Nat.ne_of_gt hLa, haI]) (ncw eG) (Heap.lt_size (kk _ _ eG)) bcw (by simp [hbn, hnI]) (Nat.le_trans O.size (Nat.le_trans hLs (Nat.le_of_lt lowL))) hcz (fun b hb q => by
    rcases List.mem_cons.mp q with rfl | q
    · exact ncw eL hb
    · rw [List.mem_singleton.mp q] at hb; exact ncw (k _ _ eI) hb) (fun i v h h' ⟨c, g, e1, e2, c3⟩ kf => ⟨c, g, e1, e2, c3.keep fun b o p _ e => kf b o (fun q => p.2 (List.mem_append_left _ (List.mem_append_right _ q))) e⟩), hG.keeps kk, kb, ⟨Nat.le_refl _, hal3⟩, _, hgs, ?_⟩
  intro s'' hal hza
  have hz := hza.1
  refine ⟨rfl, seg_func ?_⟩
  clear hgs hcw
  have kh : Keep h₁ s''.heap := fun b o e => hal b o (ncw e) (kk b o e)
  have F₁ : Fr base Lg s''.heap _ := ⟨F.ns.keeps kh, fun b o e => kh b o (F.keep b o e), F.above⟩
  have N₁ : News base Lg s''.heap (rest base Lg [] s''.heap) := rest_news
  obtain ⟨own, hro⟩ : ∃ own, own = rest base Lg [] s''.heap := ⟨_, rfl⟩
  rw [← hro] at N₁
  have O₁ := Over.ofFr F₁
  have hLs'' : Lg < s''.heap.objs.size := F₁.ns.lt
  have F₁n := F₁.ns
  rw [Nat.sub_zero]
  generalize hN : (run [] sgs).length = N
  generalize hN0 : s₃.heap.objs.size = N0 at hz lowI lowL hcz haz ⊢
  refine seg_execs_cons ?_
  refine seg_wrapB (dB := 330) (uB := 99) ⟨rfl, ?_, ?_⟩ ?_
  · show dA + 0 + 1 ≤ 330; omega
  · show uA + 1 + 0 + 3 ≤ 99; omega
  intro dB fB gB uB hdB huB
  k_unmd
  k_fold
  k_steps
  try dsimp only
  rename_i ot l1x hlo hdo hff hap ht Ft Nt
  have hsw : SwapAt ht s''.heap.objs.size := SwapAt.of hlo (Nt _ (.head _)).1 hdo (.cons (.cons (.cons (.cons (.cons (.cons (.cons (.cons (.cons .nil)))))))))
  have et := (Nt _ (.head _)).1
  clear hdo hlo hff hap l1x
  try clear qk
  try clear ek
  refine seg_execs_cons ?_
  refine seg_wrapB (dB := 330) (uB := 99) ⟨rfl, ?_, ?_⟩ ?_
  · show dA + 0 + 1 ≤ 330; omega
  · show uA + 1 + 0 + 3 ≤ 99; omega
  intro dB fB gB uB hdB huB
  k_steps
  try dsimp only
  (rename Fr base Lg _ _ => F3); (rename News base Lg _ _ => N3)
  rename_i bf h3 hbf hh3
  have kb3 : KeepBut [Lg] s''.heap hh3 := rest_keep O₁ F3 N3 (fun p hp => .tail _ (.tail _ (hro ▸ hp)))
  have ks : Keep s.heap hh3 := fun b o e => kb3 b o (fun q => by rw [List.mem_singleton.mp q, hLn] at e; cases e) (kh _ _ (k _ _ e))
  have hbf' : s''.heap.objs.size < bf := hbf.1
  obtain ⟨X, hX⟩ : ∃ X : GA, X = ⟨base, N0, Lg, It, cl, bf, s''.heap.objs.size, av ++ cw, cs, sgs⟩ := ⟨_, rfl⟩
  have lowb : ∀ {b : Addr} {o : Obj}, s''.heap.get? b = some o → b < s''.heap.objs.size := fun e => Heap.lt_size e
  have eI3 := kh _ _ (k _ _ eI)
  have eC3 := kh _ _ (k _ _ eC)
  have ltI := Heap.lt_size eI3
  have ltC := Heap.lt_size eC3
  have ItL : It ≠ Lg := by rintro rfl; rw [hLn] at eI; cases eI
  have clL : cl ≠ Lg := by rintro rfl; rw [hLn] at eC; cases eC
  have clI : cl ≠ It := by rintro rfl; rw [eI] at eC; cases eC; rw [cI] at cC; exact absurd cC (by simp)
  have ok : X.Ok := by
    subst hX
    refine ⟨Nat.le_trans hz (Nat.le_of_lt hbf'), (N3 _ (.head _)).2.2, ItL, Nat.ne_of_lt (Nat.lt_trans ltI hbf'), clL, Nat.ne_of_lt (Nat.lt_trans ltC hbf'), clI, Nat.ne_of_gt hLs'', Nat.ne_of_lt hbf', (N3 _ (.head _)).2.1, Nat.ne_of_gt ltI, hlen, ?_, ?_, nav eL, nav (k _ _ eI)⟩
    · rintro b o e rfl
      have e' : base.get? b = some o := e
      rw [hnI] at e'; cases e'
    · intro b hb
      rcases List.mem_append.mp hb with hb | hb
      · exact haz b hb
      · exact hcz b hb
  have awa : X.Away cw := by
    subst hX
    exact ⟨fun b => ⟨fun hb => List.mem_append_right _ hb, fun hb => (List.mem_append.mp hb).elim (hav b) id⟩, ncw (k _ _ eI), ncw (k _ _ eC), ncw eL, fun hm => absurd (hcz _ hm) (Nat.not_lt.mpr hz), bcw⟩
  have hGJ : ∀ tk, GJ X sgs.length N s'' { heap := hh3, gens := s''.gens, drawn := s''.drawn, toks := tk, os := s''.os } := by
    intro tk
    subst hX
    obtain ⟨u, Fu⟩ := gMap_of F3 (fun y _ => rfl)
    refine ⟨[], [], u, 0, 0, rfl, ⟨?_, ?_, ?_, ?_, ?_, ⟨_, (N3 _ (.head _)).1, not_solid_list⟩, ⟨_, F3.ns⟩, ?_⟩, Fu, (N3 _ (.head _)).1, rfl, Nat.zero_le _, fun j c g hj => by simp at hj, Nat.le_of_eq hN.symm, ?_⟩
    · refine ⟨⟨hh3, tk, rfl⟩, fun b o e hb => kb3 b o (fun q => ?_) e, fun b o so e => kb3 b o (fun q => ?_) e, Nat.le_trans hz (Nat.le_of_lt (Nat.lt_trans hbf' (Heap.lt_size (N3 _ (.head _)).1)))⟩
      · rcases hb with ⟨q', _⟩ | ⟨hw, _⟩
        · cases q'
        · exact hw (by rw [List.mem_singleton.mp q]; simp)
      · obtain ⟨m, oL, es, ep, eL', dL, _⟩ := (⟨_, F₁n⟩ : ∃ m, s''.heap.Ns Lg m)
        rw [List.mem_singleton.mp q] at e
        rw [e] at eL'; cases eL'
        obtain ⟨its, k, dq⟩ := so.2
        rw [dL] at dq; cases dq
    · exact ⟨_, ks _ _ eI, cI, dI⟩
    · exact ⟨_, ks _ _ eC, cC, nC, dC⟩
    · intro j c g e1 e2
      refine CharP.keep (CharP.monoS (hch j c g e1 e2) fun b o so e p => ⟨p, nav (k _ _ e), ?_, ?_⟩) fun b o _ _ e => ks b o e
      · rintro rfl
        have e' := hLn.symm.trans e
        cases e'
      · rintro rfl
        have e' : some oI = some o := eI.symm.trans e
        cases e'
        rcases so with ⟨a, q⟩ | q | q <;> (rw [cI] at q; exact absurd q (by simp))
    · exact hsw.keep1 fun o e => by
        rw [et] at e; cases e
        exact (N3 _ (.tail _ (.head _))).1
    · intro b hb
      have hb' : b ∈ cw := (List.mem_append.mp hb).elim (hav b) id
      obtain ⟨o, e⟩ := hza.2 b hb'
      exact ⟨o, kb3 b o (fun q => ncw eL ((List.mem_singleton.mp q) ▸ hb')) e⟩
    · show (run [] sgs).drop ((run [] sgs).length - N) = _
      rw [← hN, Nat.sub_self]; rfl
  have hit3 : hh3.IsListIter It cl 0 := ⟨_, ks _ _ eI, cI, dI⟩
  clear kb3 ks hro
  refine seg_execs_cons ?_
  refine seg_For (dB := 330) (uB := 99) ⟨rfl, ?_, ?_⟩ ?_
  · show dA + 0 + 1 ≤ 330; omega
  · show uA + 1 + 0 + 3 ≤ 99; omega
  intro dB fB gB uB hdB huB
  walk1
  refine wpAny_pyIter_listiter hit3 ?_
  intro p
  subst hX
  refine seg_for_inv (dB := 330) (uB := 99) (GJ _) ⟨rfl, ?_, ?_⟩ ?turn rfl (fun _ => rfl) _ _ _ _ (hGJ _)
  · show dA + (1 + 0) + 0 ≤ 330; omega
  · show uA + 1 + (3 + 0) + 0 ≤ 99; omega
  case turn =>
    clear hGJ N3 F3
    rintro i n sz s₁ ⟨bcs, bsg, u, e, pos, hip, K, Fg, eb, hbl, hb2, hbc, hn, hdrop⟩ hnext dp fr gd un hdp hun
    have W := Walks.list (prog := PySem.Challenge.rw_rk0003_01.row.prog) (w := w) (A := { handled := none, depth := dp, frames := fr, guards := gd, units := un }) rfl It cl clI (cs.map Value.ref).toArray
    have hsz : (cs.map Value.ref).toArray.size = sgs.length := by simp [hlen]
    rw [hsz] at W
    by_cases hlt : pos < sgs.length
    · refine W.item pos _ _ _ hlt ⟨K.it, K.lst⟩ ?_
      intro v h' tk' hv st' kI
      have hv1 : ∃ c g, v = .ref c ∧ cs[pos]? = some c ∧ sgs[pos]? = some g := by
        have hv' : (cs.map Value.ref)[pos]? = some v := by simpa using hv
        rw [List.getElem?_map] at hv'
        cases q : cs[pos]? with
        | none => rw [q] at hv'; cases hv'
        | some c => rw [q] at hv'; cases hv'; exact ⟨c, _, rfl, rfl, List.getElem?_eq_getElem hlt⟩
      obtain ⟨c, g, rfl, ec, eg⟩ := hv1
      have kb1 : KeepBut [Lg, bf, It] s₁.heap h' := fun b o hb e => kI b o (fun q => hb (by rw [List.mem_singleton.mp q]; simp)) e
      have eb1 : h'.get? bf = some _ := kI _ _ (fun q => ok.Itb (List.mem_singleton.mp q).symm) eb
      have F1 : Fr base Lg h' (gMap bf s''.heap.objs.size It u) := ⟨Fg.ns.at' fun o e => kI _ o (fun q => ok.ItL (List.mem_singleton.mp q).symm) e, fun b o e => kI b o (fun q => by rw [List.mem_singleton.mp q, hnI] at e; cases e) (Fg.keep b o e), Fg.above⟩
      have K1 := K.step (tk := tk') ok kb1 st'.1 ⟨_, eb1, not_solid_list⟩ F1.ns
      have hbc1 := fun j c g e1 e2 => K.charKeep kb1 (hbc j c g e1 e2)
      refine wpAny_assign_Name (wpAny_storeName_local (by rfl) F1.ns (fun h₂ hn₂ hs₂ => ?_) rfl)
      have F2 := F1.set hn₂ hs₂
      have kb2 : KeepBut [Lg, bf] h' h₂ := fun b o hb e => (hs₂.2 b (fun q => hb (by rw [q]; exact List.mem_cons_self))).trans e
      have eb2 := (hs₂.2 bf ok.bfL).trans eb1
      have K2 := K1.walk (tk := tk' + 1) ok kb2 eb2 F2.ns
      have hbc2 := fun j c g e1 e2 => K1.charKeep (kb2.mono (by simp)) (hbc1 j c g e1 e2)
      have hcg := K2.chars pos c g ec eg
      have hrun : sgs.drop pos = g :: sgs.drop (pos + 1) := by rw [List.drop_eq_getElem_cons hlt]; congr 1; rw [List.getElem?_eq_getElem hlt] at eg; exact Option.some.inj eg
      dsimp only at hdrop
      rw [hrun] at hdrop
      have O2 := Over.ofFr F2
      have mEq : ∀ y, gStored.contains y = false → (if y = Str.ofString "char" then some (Value.ref c) else gMap bf s''.heap.objs.size It u y) = if y = Str.ofString "buf" then some (.ref bf) else if y = Str.ofString "tri_map" then some (.ref s''.heap.objs.size) else if y = Str.ofString "characters" then some (.ref It) else none := by
        intro y hy
        have hy2 := hy
        simp only [gStored, List.contains_cons, List.contains_nil, Bool.or_false, Bool.or_eq_false_iff, beq_eq_false_iff_ne, ne_eq] at hy2
        rw [if_neg hy2.1]
        unfold gMap
        rw [hy]; rfl
      rcases split2 hbl hb2 with ⟨rfl, rfl⟩ | ⟨a1, g1, rfl, rfl⟩ | ⟨a1, b1, g1, g2, rfl, rfl⟩
      · have N2 : News base Lg h₂ ((bf, listOf #[] e) :: rest base Lg [bf] h₂) := by
          intro p hp
          rcases List.mem_cons.mp hp with rfl | hp
          · exact ⟨eb2, ok.bfL, ok.bfb⟩
          · exact rest_news p hp
        have hoff : OwnOff (rest base Lg [bf] h₂) [bf] := rest_ownOff
        obtain ⟨own, hro⟩ : ∃ own, own = rest base Lg [bf] h₂ := ⟨_, rfl⟩
        rw [← hro] at N2 hoff
        refine seg_execs_cons ?_
        refine seg_wrapB (dB := 330) (uB := 99) ⟨rfl, ?_, ?_⟩ ?_
        · show dA + (1 + 0) + 0 ≤ 330; omega
        · show uA + 1 + (3 + 0) + 0 ≤ 99; omega
        intro dB fB gB uB hdB huB
        k_steps
        try dsimp only
        refine seg_execs_cons ?_
        refine seg_If (dB := 330) (uB := 99) ⟨rfl, ?_, ?_⟩ ?_
        · show dA + (1 + 0) + 0 ≤ 330; omega
        · show uA + 1 + (3 + 0) + 0 ≤ 99; omega
        intro dB fB gB uB hdB huB
        k_steps
        try dsimp only
        (rename Fr base Lg _ _ => F9); (rename News base Lg _ _ => N9)
        have kb9 : KeepBut [Lg, bf] h₂ _ := rest_keep O2 F9 N9 (fun p hp => .tail _ (hro ▸ hp))
        obtain ⟨u9, F9'⟩ := gMap_of (bf := bf) (tm := s''.heap.objs.size) (It := It) F9 mEq
        refine hnext (sgs.length - (pos + 1)) n sz _ (by have hip' : i + pos = sgs.length := hip; omega) (GJ.mk [c] [g] _ (pos + 1) hlt (K2.walk ok kb9 (N9 _ (.head _)).1 F9'.ns) F9' (N9 _ (.head _)).1 rfl (by simp) ?_ hn hdrop)
        have kb9' : KeepBut [Lg, bf, It] h₂ _ := kb9.mono (by simp)
        intro j c' g' e1 e2
        rcases j with _ | j
        · cases e1; cases e2; exact K2.charKeep kb9' hcg
        · cases e1
      · have N2 : News base Lg h₂ ((bf, listOf #[.ref a1] e) :: rest base Lg [bf] h₂) := by
          intro p hp
          rcases List.mem_cons.mp hp with rfl | hp
          · exact ⟨eb2, ok.bfL, ok.bfb⟩
          · exact rest_news p hp
        have hoff : OwnOff (rest base Lg [bf] h₂) [bf] := rest_ownOff
        obtain ⟨own, hro⟩ : ∃ own, own = rest base Lg [bf] h₂ := ⟨_, rfl⟩
        rw [← hro] at N2 hoff
        refine seg_execs_cons ?_
        refine seg_wrapB (dB := 330) (uB := 99) ⟨rfl, ?_, ?_⟩ ?_
        · show dA + (1 + 0) + 0 ≤ 330; omega
        · show uA + 1 + (3 + 0) + 0 ≤ 99; omega
        intro dB fB gB uB hdB huB
        k_steps
        try dsimp only
        refine seg_execs_cons ?_
        refine seg_If (dB := 330) (uB := 99) ⟨rfl, ?_, ?_⟩ ?_
        · show dA + (1 + 0) + 0 ≤ 330; omega
        · show uA + 1 + (3 + 0) + 0 ≤ 99; omega
        intro dB fB gB uB hdB huB
        k_steps
        try dsimp only
        (rename Fr base Lg _ _ => F9); (rename News base Lg _ _ => N9)
        have kb9 : KeepBut [Lg, bf] h₂ _ := rest_keep O2 F9 N9 (fun p hp => .tail _ (hro ▸ hp))
        obtain ⟨u9, F9'⟩ := gMap_of (bf := bf) (tm := s''.heap.objs.size) (It := It) F9 mEq
        refine hnext (sgs.length - (pos + 1)) n sz _ (by have hip' : i + pos = sgs.length := hip; omega) (GJ.mk [a1, c] [g1, g] _ (pos + 1) hlt (K2.walk ok kb9 (N9 _ (.head _)).1 F9'.ns) F9' (N9 _ (.head _)).1 rfl (by simp) ?_ hn hdrop)
        have kb9' : KeepBut [Lg, bf, It] h₂ _ := kb9.mono (by simp)
        intro j c' g' e1 e2
        rcases j with _ | _ | j
        · cases e1; cases e2; exact K2.charKeep kb9' (hbc2 0 _ _ rfl rfl)
        · cases e1; cases e2; exact K2.charKeep kb9' hcg
        · cases e1
      · obtain ⟨da, la, ta, ta1, ta2, ka1, ka2, xa1, xa2, pa1, pa2, pla⟩ := hbc2 0 a1 g1 rfl rfl
        obtain ⟨db, lb, tb, tb1, tb2, kb1', kb2', xb1, xb2, pb1, pb2, plb⟩ := hbc2 1 b1 g2 rfl rfl
        obtain ⟨dc, lc, tc, tc1, tc2, kc1, kc2, xc1, xc2, pc1, pc2, plc⟩ := hcg
        have N2 : News base Lg h₂ ((bf, listOf #[.ref a1, .ref b1] e) :: (a1, instObj 38 da) :: (da, charD g1.ch ta la ta1 ta2 ka1 ka2) :: (b1, instObj 38 db) :: (db, charD g2.ch tb lb tb1 tb2 kb1' kb2') :: (c, instObj 38 dc) :: (dc, charD g.ch tc lc tc1 tc2 kc1 kc2) :: rest base Lg [bf] h₂) := by
          intro p hp
          rcases List.mem_cons.mp hp with rfl | hp
          · exact ⟨eb2, ok.bfL, ok.bfb⟩
          rcases List.mem_cons.mp hp with rfl | hp
          · exact ⟨xa1, pa1.2.2.1, pa1.1⟩
          rcases List.mem_cons.mp hp with rfl | hp
          · exact ⟨xa2, pa2.2.2.1, pa2.1⟩
          rcases List.mem_cons.mp hp with rfl | hp
          · exact ⟨xb1, pb1.2.2.1, pb1.1⟩
          rcases List.mem_cons.mp hp with rfl | hp
          · exact ⟨xb2, pb2.2.2.1, pb2.1⟩
          rcases List.mem_cons.mp hp with rfl | hp
          · exact ⟨xc1, pc1.2.2.1, pc1.1⟩
          rcases List.mem_cons.mp hp with rfl | hp
          · exact ⟨xc2, pc2.2.2.1, pc2.1⟩
          · exact rest_news p hp
        have qa1 : @Ne Nat a1 bf := K2.notBf xa1 (.inl ⟨38, rfl⟩)
        have qa2 : @Ne Nat da bf := K2.notBf xa2 (.inr (.inr rfl))
        have qb1 : @Ne Nat b1 bf := K2.notBf xb1 (.inl ⟨38, rfl⟩)
        have qb2 : @Ne Nat db bf := K2.notBf xb2 (.inr (.inr rfl))
        have qc1 : @Ne Nat c bf := K2.notBf xc1 (.inl ⟨38, rfl⟩)
        have qc2 : @Ne Nat dc bf := K2.notBf xc2 (.inr (.inr rfl))
        have hoff : OwnOff (rest base Lg [bf] h₂) [bf] := rest_ownOff
        obtain ⟨own, hro⟩ : ∃ own, own = rest base Lg [bf] h₂ := ⟨_, rfl⟩
        rw [← hro] at N2 hoff
        refine seg_execs_cons ?_
        refine seg_wrapB (dB := 330) (uB := 99) ⟨rfl, ?_, ?_⟩ ?_
        · show dA + (1 + 0) + 0 ≤ 330; omega
        · show uA + 1 + (3 + 0) + 0 ≤ 99; omega
        intro dB fB gB uB hdB huB
        k_steps
        try dsimp only
        refine seg_execs_cons ?_
        refine seg_If (dB := 330) (uB := 99) ⟨rfl, ?_, ?_⟩ ?_
        · show dA + (1 + 0) + 0 ≤ 330; omega
        · show uA + 1 + (3 + 0) + 0 ≤ 99; omega
        intro dB fB gB uB hdB huB
        k_steps
        try dsimp only
        (rename Fr base Lg _ _ => F5); (rename News base Lg _ _ => N5)
        replace N5 : News base Lg _ ((bf, listOf #[.ref a1, .ref b1, .ref c] (e + 1)) :: (a1, instObj 38 da) :: (da, charD g1.ch ta la ta1 ta2 ka1 ka2) :: (b1, instObj 38 db) :: (db, charD g2.ch tb lb tb1 tb2 kb1' kb2') :: (c, instObj 38 dc) :: (dc, charD g.ch tc lc tc1 tc2 kc1 kc2) :: own) := N5
        show Seg _ _ _ _ _ _ _ ((execs [_] _).wrap _ _ _ _) _ _
        refine seg_execs_cons ?_
        refine seg_If (dB := 330) (uB := 99) ⟨rfl, ?_, ?_⟩ ?_
        · show dA + (1 + 0) + 0 ≤ 330; omega
        · show uA + 1 + (3 + 0) + 0 ≤ 99; omega
        intro dB fB gB uB hdB huB
        have kb5 : KeepBut [Lg, bf] h₂ _ := rest_keep O2 F5 N5 (fun p hp => .tail _ (.tail _ (.tail _ (.tail _ (.tail _ (.tail _ (.tail _ (hro ▸ hp))))))))
        have hL5 : Heap.IsList _ bf (List.toArray [Value.ref a1, Value.ref b1, Value.ref c]) := ⟨_, (N5 _ (.head _)).1, rfl, _, rfl⟩
        have sw5 := (K2.walk (tk := 0) ok kb5 (N5 _ (.head _)).1 F5.ns).swap
        refine wpAny_test (g1.ch = qm ∧ g2.ch = qm ∧ (swapOf g.ch).isSome = true) ?_ ?_
        · clear hnext W mEq K ok awa K1 K2 hbc hbc1 hbc2 hdrop hrun Fg hch kb5 kb1 kb2 kI st' hv hn hs₂ hn₂ hip pa1 pa2 pla pb1 pb2 plb pc1 pc2 plc xa1 xa2 xb1 xb2 xc1 xc2 eb eb1 eb2 hsw et hit3 lowb hoL hcz haz F₁n hal kh ncw nav bcw hG kk kb hro O2 O₁ hI hC O
          dsimp only at sw5
          k_steps
          · refine in_swaps sw5 ?_
            k_steps
            · refine TestEnd.mk' ?_
              simp_all [qm]
            · refine TestEnd.mk' ?_
              simp_all [qm]
          · refine TestEnd.mk' ?_
            simp_all [qm]
          · refine TestEnd.mk' ?_
            simp_all [qm]
        · clear hsw et
          rintro b tkb hb
          have hoff := hoff
          cases b with
          | true =>
            obtain ⟨q1, q2, q3⟩ := hb.mp rfl
            obtain ⟨d, hd⟩ := Option.isSome_iff_exists.mp q3
            show Seg _ _ _ _ _ _ _ ((execs _ _).wrap _ _ _ _) _ _
            rw [run_swap q1 q2 hd] at hdrop
            obtain ⟨n', rfl, hix, hdr⟩ := drop_head hdrop hn
            rw [hN] at hix
            refine seg_execs_cons ?_
            refine seg_wrapB (dB := 320) (uB := 99) ⟨rfl, ?_, ?_⟩ ?_
            · show dA + (1 + 0) + 0 ≤ 320; omega
            · show uA + 1 + (3 + 0) + 0 ≤ 99; omega
            intro dB fB gB uB hdB huB
            k_steps
            try dsimp only
            refine seg_execs_cons ?_
            refine seg_wrapB (dB := 320) (uB := 99) ⟨rfl, ?_, ?_⟩ ?_
            · show dA + (1 + 0) + 0 ≤ 320; omega
            · show uA + 1 + (3 + 0) + 0 ≤ 99; omega
            intro dB fB gB uB hdB huB
            k_steps
            try dsimp only
            refine seg_execs_cons ?_
            refine seg_wrapB (dB := 320) (uB := 99) ⟨rfl, ?_, ?_⟩ ?_
            · show dA + (1 + 0) + 0 ≤ 320; omega
            · show uA + 1 + (3 + 0) + 0 ≤ 99; omega
            intro dB fB gB uB hdB huB
            repeat' (first | (k_unfold; (try dsimp only)) | ((fail_if_success (with_reducible show wpAny _ _ (subscriptTail _ _ (Value.ref _) (Value.str _ _)) _ _ _)); (first | walk1 | (dsimp only; walk1) | (leave1; try dsimp only))) | fail "no step")
            (rename Fr base Lg _ _ => F6); (rename News base Lg _ _ => N6)
            have kb6 : KeepBut [Lg, bf] h₂ _ := rest_keep O2 F6 N6 (fun p hp => .tail _ (.tail _ (.tail _ (.tail _ (.tail _ (.tail _ (.tail _ (hro ▸ hp))))))))
            have sw6 := (K2.walk (tk := 0) ok kb6 (N6 _ (.head _)).1 F6.ns).swap
            refine item_swaps sw6 hd ?_
            intro td
            clear kb6 sw6
            k_steps
            try dsimp only
            refine seg_execs_cons ?_
            refine seg_YieldB (dB := 320) (uB := 99) ⟨rfl, ?_, ?_⟩ rfl rfl rfl ?_
            · show dA + (1 + 0) + 0 ≤ 320; omega
            · show uA + 1 + (3 + 0) + 0 ≤ 99; omega
            intro dB fB gB uB hdB huB
            k_steps
            (rename Fr base Lg _ _ => F7); (rename News base Lg _ _ => N7)
            refine char_new (KX.keeps F7.keep) rfl hdB (Nat.le_trans huB (by decide)) ?_
            rintro _ _ ⟨x, dx, t1', t2', k1', k2', h8, tk8, rfl, rfl, k8, e10, e11, e12, e13⟩
            have kb7 : KeepBut [Lg, bf] h₂ _ := rest_keep O2 F7 N7 (fun p hp => .tail _ (.tail _ (.tail _ (.tail _ (.tail _ (.tail _ (.tail _ (hro ▸ hp))))))))
            have kb8 : KeepBut [Lg, bf] h₂ h8 := kb7.trans (.ofKeep k8)
            have eb7 := (N7 _ (.head _)).1
            have K7 := K2.walk (tk := 0) ok kb7 eb7 F7.ns
            have eb8 := k8 _ _ eb7
            have F8 := F7.keeps k8
            have K8 := fun tk => K2.walk (tk := tk) ok kb8 eb8 F8.ns
            obtain ⟨u8, F8'⟩ := gMap_of (bf := bf) (tm := s''.heap.objs.size) (It := It) F8 (fun y hy => by
              have hy2 := hy
              simp only [gStored, List.contains_cons, List.contains_nil, Bool.or_false, Bool.or_eq_false_iff, beq_eq_false_iff_ne, ne_eq] at hy2
              simp only [hy2.1, hy2.2, if_false]
              unfold gMap
              rw [hy]; rfl)
            have px : ∀ (hh : Heap), Keep base hh → (∀ b ∈ av ++ cw, ∃ o, hh.get? b = some o) → (∃ o, hh.get? Lg = some o) → (∃ o, hh.get? It = some o) → ∀ b, hh.get? b = none → base.get? b = none ∧ b ∉ av ++ cw ++ [Lg, It] := by
              intro hh kq al oLq oIq b e
              refine ⟨?_, fun q => ?_⟩
              · cases q : base.get? b with
                | none => rfl
                | some o => have := kq _ _ q; rw [e] at this; cases this
              · have : ∃ o, hh.get? b = some o := by
                  rcases List.mem_append.mp q with q | q
                  · exact al b q
                  · simp only [List.mem_cons, List.not_mem_nil, or_false] at q
                    rcases q with rfl | rfl
                    · exact oLq
                    · exact oIq
                obtain ⟨o, e'⟩ := this
                rw [e] at e'; cases e'
            have oLq := LCg.ns_obj F7.ns
            have px := px _ F7.keep K7.alive ⟨_, oLq.choose_spec.1⟩ ⟨_, K7.it.choose_spec.1⟩
            refine ⟨hN ▸ hn, ⟨x, _, rfl, hix, dx, la, _, t1', t2', k1', k2', e12, e13, px _ e10, px _ e11, (K2.locKeep (kb8.mono (by simp)) pla).mono fun b o _ p => GA.P.out p⟩, (K8 _).since, fun sR kR zR => ?_⟩
            exact hnext (sgs.length - (pos + 1)) n' sR sR (by have hip' : i + pos = sgs.length := hip; omega) (GJ.mk (u := u8) [] [] _ (pos + 1) hlt ((K8 0).resume ok awa kR zR) (Fr.resume awa F8' kR) (kR _ _ (awa.bf ok) eb8) rfl (by simp) (fun j c g hj => by simp at hj) (Nat.le_of_succ_le hn) hdr)
          | false =>
            have hb' : ¬ (g1.ch = qm ∧ g2.ch = qm ∧ (swapOf g.ch).isSome = true) := fun q => by cases hb.mpr q
            show Seg _ _ _ _ _ _ _ ((execs _ _).wrap _ _ _ _) _ _
            refine seg_execs_cons ?_
            have hrn := run_keep (r := sgs.drop (pos + 1)) hb'
            rw [hrn] at hdrop
            obtain ⟨n', rfl, hix, hdr⟩ := drop_head hdrop hn
            refine seg_YieldB (dB := 330) (uB := 99) ⟨rfl, ?_, ?_⟩ rfl rfl rfl ?_
            · show dA + (1 + 0) + 0 ≤ 330; omega
            · show uA + 1 + (3 + 0) + 0 ≤ 99; omega
            intro dB fB gB uB hdB huB
            k_steps
            try dsimp only
            (rename Fr base Lg _ _ => F7); (rename News base Lg _ _ => N7)
            have kb7 : KeepBut [Lg, bf] h₂ _ := rest_keep O2 F7 N7 (fun p hp => .tail _ (.tail _ (.tail _ (.tail _ (.tail _ (.tail _ (.tail _ (hro ▸ hp))))))))
            have eb7 := (N7 _ (.head _)).1
            have K7 := fun tk => K2.walk (tk := tk) ok kb7 eb7 F7.ns
            have c7 := fun j c g e1 e2 => K2.charKeep (kb7.mono (by simp)) (hbc2 j c g e1 e2)
            have cg7 := K2.charKeep (kb7.mono (by simp)) (K2.chars pos c g ec eg)
            obtain ⟨u7, F7'⟩ := gMap_of (bf := bf) (tm := s''.heap.objs.size) (It := It) F7 mEq
            rw [hN] at hix
            refine ⟨hN ▸ hn, ⟨a1, g1, rfl, hix, (c7 0 a1 g1 rfl rfl).mono fun b o _ p => GA.P.out p⟩, (K7 _).since, fun sR kR zR => ?_⟩
            refine hnext (sgs.length - (pos + 1)) n' sR sR (by have hip' : i + pos = sgs.length := hip; omega) (GJ.mk (u := u7) [b1, c] [g2, g] _ (pos + 1) hlt ((K7 0).resume ok awa kR zR) (Fr.resume awa F7' kR) (kR _ _ (awa.bf ok) eb7) rfl (by simp) ?_ (Nat.le_of_succ_le hn) hdr)
            intro j c' g' e1 e2
            rcases j with _ | _ | j
            · cases e1; cases e2; exact CharP.resume awa (c7 1 _ _ rfl rfl) kR
            · cases e1; cases e2; exact CharP.resume awa cg7 kR
            · cases e1
    · have hpe : pos = sgs.length := by have hip' : i + pos = sgs.length := hip; omega
      subst hpe
      refine W.done _ _ _ ⟨K.it, K.lst⟩ ?_
      intro h' tk' kI
      have kb1 : KeepBut [Lg, bf, It] s₁.heap h' := fun b o hb e => kI b o (fun q => hb (by rw [List.mem_singleton.mp q]; simp)) e
      have eb1 : h'.get? bf = some _ := kI _ _ (fun q => ok.Itb (List.mem_singleton.mp q).symm) eb
      have F1 : Fr base Lg h' (gMap bf s''.heap.objs.size It u) := ⟨Fg.ns.at' fun o e => kI _ o (fun q => ok.ItL (List.mem_singleton.mp q).symm) e, fun b o e => kI b o (fun q => by rw [List.mem_singleton.mp q, hnI] at e; cases e) (Fg.keep b o e), Fg.above⟩
      have hbd : sgs.drop sgs.length = [] := List.drop_length
      dsimp only at hdrop
      rw [hbd, run_nil] at hdrop
      show Seg _ _ _ _ _ _ _ _ _ _
      refine seg_execs_cons ?_
      refine seg_For (dB := 320) (uB := 99) ⟨rfl, ?_, ?_⟩ ?_
      · show dA + 0 + 1 ≤ 320; omega
      · show uA + 1 + 0 + 3 ≤ 99; omega
      intro dB fB gB uB hdB huB
      have N1 : News base Lg h' [] := News.nil
      walk1
      refine wpAny_pyIter_list (items := (bcs.map Value.ref).toArray) ⟨_, eb1, rfl, _, rfl⟩ ?_
      intro p2
      have hbI : bf < h'.objs.size := Heap.lt_size eb1
      have IN : N0 ≤ h'.objs.size := Nat.le_trans ok.bfN (Nat.le_of_lt hbI)
      have hLg1 : Lg < h'.objs.size := F1.ns.lt
      have hIcw : h'.objs.size ∉ cw := fun q => absurd (hcz _ q) (Nat.not_lt.mpr IN)
      have up : ∀ b o, b ≠ It → s₁.heap.get? b = some o → (h'.push { cls := .type "list_iterator", data := .fields #[.ref bf, .int 0 0] }).get? b = some o := fun b o hb e => Heap.get?_push_of_some _ (kI b o (fun q => hb (List.mem_singleton.mp q)) e)
      refine seg_for_inv (dB := 320) (uB := 99) (GJ2 ⟨base, N0, Lg, It, cl, bf, s''.heap.objs.size, av ++ cw, cs, sgs⟩ h'.objs.size bf bcs bsg) ⟨rfl, ?_, ?_⟩ ?turn2 rfl (fun _ => rfl) bsg.length _ _ _ ?start
      · show dA + (1 + 0) + 0 ≤ 320; omega
      · show uA + 1 + (3 + 0) + 0 ≤ 99; omega
      case start =>
        refine ⟨_, 0, rfl, ⟨?_, ⟨_, F1.ns.push _⟩, ?_, ?_, ?_, ?_⟩, F1.push _, hn, hdrop⟩
        · refine K.since.step (fun b o e hb => up b o (fun q => ?_) e) (by rw [Heap.size_push]; exact Nat.le_succ_of_le IN)
          rcases hb with (⟨q', _⟩ | ⟨hw, _⟩) | so
          · cases q'
          · exact hw (by rw [q]; simp)
          · exact K.notIt e so.solid q
        · exact fun b hb => let ⟨o, e⟩ := K.alive b hb; ⟨o, up b o (fun q => ok.avI (q ▸ hb)) e⟩
        · exact ⟨_, Heap.get?_push_size _ rfl, rfl, rfl⟩
        · exact ⟨_, up bf _ (Ne.symm ok.Itb) eb, rfl, _, rfl⟩
        · exact fun j c g e1 e2 => (hbc j c g e1 e2).keep fun b o p so e => up b o (K.notIt e so) e
      case turn2 =>
        have hLI : Lg ≠ h'.objs.size := Nat.ne_of_lt hLg1
        have hbI' : bf ≠ h'.objs.size := Nat.ne_of_lt hbI
        have havs : ∀ b ∈ av ++ cw, b < N0 ∧ b ≠ Lg := fun b hb => ⟨ok.av b hb, fun q => ok.avL (q ▸ hb)⟩
        generalize h'.objs.size = It2 at hLI hbI' IN hIcw ⊢
        rintro i2 n2 s02 s2 ⟨m2, pos2, hip2, G, F2, hn2, hd2⟩ hnext2 dp fr gd un hdp hun
        have W2 := Walks.list (prog := PySem.Challenge.rw_rk0003_01.row.prog) (w := w) (A := { handled := none, depth := dp, frames := fr, guards := gd, units := un }) rfl It2 bf hbI' (bcs.map Value.ref).toArray
        have hsz2 : (bcs.map Value.ref).toArray.size = bsg.length := by simp [hbl]
        rw [hsz2] at W2
        by_cases hlt2 : pos2 < bsg.length
        · refine W2.item pos2 _ _ _ hlt2 ⟨G.it, G.lst⟩ ?_
          intro v h2 tk2 hv st2 kI2
          have hv1 : ∃ c g, v = .ref c ∧ bcs[pos2]? = some c ∧ bsg[pos2]? = some g := by
            have hv' : (bcs.map Value.ref)[pos2]? = some v := by simpa using hv
            rw [List.getElem?_map] at hv'
            cases q : bcs[pos2]? with
            | none => rw [q] at hv'; cases hv'
            | some c => rw [q] at hv'; cases hv'; exact ⟨c, _, rfl, rfl, List.getElem?_eq_getElem hlt2⟩
          obtain ⟨c, g, rfl, ec, eg⟩ := hv1
          have FI : Fr base Lg h2 m2 := ⟨F2.ns.at' fun o e => kI2 _ o (fun q => hLI (List.mem_singleton.mp q)) e, fun b o e => kI2 b o (fun q => by
            have q' := Heap.lt_size e
            rw [List.mem_singleton.mp q] at q'
            exact absurd (Nat.lt_of_lt_of_le q' (Nat.le_trans O.size (Nat.le_trans hLs (Nat.le_of_lt lowL)))) (Nat.not_lt.mpr IN)) (F2.keep b o e), F2.above⟩
          refine wpAny_assign_Name (wpAny_storeName_local (by rfl) FI.ns (fun h₂ hn₂ hs₂ => ?_) rfl)
          have FJ := FI.set hn₂ hs₂
          have kb2 : KeepBut [Lg, It2] s2.heap h₂ := fun b o hb e => by
            simp only [List.mem_cons, List.not_mem_nil, or_false, not_or] at hb
            exact (hs₂.2 b hb.1).trans (kI2 b o (fun q => hb.2 (List.mem_singleton.mp q)) e)
          have it2 : h₂.IsListIter It2 bf (pos2 + 1) := let ⟨o, e, r⟩ := st2.1; ⟨o, (hs₂.2 It2 (Ne.symm hLI)).trans e, r⟩
          have G2 := fun tk => G.step (tk := tk) IN ok.bfL hbI' havs kb2 it2 FJ.ns
          have hrun2 : bsg.drop pos2 = g :: bsg.drop (pos2 + 1) := by rw [List.drop_eq_getElem_cons hlt2]; congr 1; rw [List.getElem?_eq_getElem hlt2] at eg; exact Option.some.inj eg
          dsimp only at hd2
          rw [hrun2] at hd2
          obtain ⟨n', rfl, hix, hdr⟩ := drop_head hd2 hn2
          rw [hN] at hix
          refine seg_execs_cons ?_
          refine seg_YieldB (dB := 320) (uB := 99) ⟨rfl, ?_, ?_⟩ rfl rfl rfl ?_
          · show dA + (1 + 0) + 0 ≤ 320; omega
          · show uA + 1 + (3 + 0) + 0 ≤ 99; omega
          intro dB fB gB uB hdB huB
          have N2 : News base Lg h₂ [] := News.nil
          walk1
          refine ⟨hN ▸ hn2, ⟨c, g, rfl, hix, ((G2 0).chars _ _ _ ec eg).mono fun b o _ p => GA.P.out p⟩, (G2 _).since, fun sR kR zR => ?_⟩
          exact hnext2 (bsg.length - (pos2 + 1)) n' sR sR (by omega) ⟨_, pos2 + 1, by omega, (G2 0).resume awa hIcw (awa.bf ok) kR zR, Fr.resume awa FJ kR, Nat.le_of_succ_le hn2, hdr⟩
        · have hpe2 : pos2 = bsg.length := by omega
          subst hpe2
          refine W2.done _ _ _ ⟨G.it, G.lst⟩ ?_
          intro h2 tk2 kI2
          dsimp only at hd2
          rw [List.drop_length] at hd2
          have hzn := zero_left hd2 hn2
          show Seg _ _ _ _ _ _ _ (leafOf (.ok (.ret .none))) [] _
          refine seg_end (.ok (.ret .none)) ⟨rfl, hzn, G.since.step (fun b o e hb => kI2 b o (fun q => ?_) e) ?_⟩
          · rw [List.mem_singleton.mp q] at e hb
            rcases hb with (⟨q', _⟩ | ⟨_, so | lt⟩) | so
            · cases q'
            · exact G.notIt e so rfl
            · exact absurd IN (Nat.not_le.mpr lt)
            · exact G.notIt e so.solid rfl
          · obtain ⟨o, e, _⟩ := G.lst
            exact Nat.le_trans ok.bfN (Nat.le_of_lt (Heap.lt_size (kI2 _ _ (fun q => hbI' (List.mem_singleton.mp q)) e)))
end
end Mine
namespace Mine

abbrev lsO (acc : Array Value) (c : Nat) : Obj := { cls := .type "list", dict := none, data := .seq acc c, slots := #[] }

theorem alive1 {h : Heap} {S : Addr} {o : Obj} (e : h.get? S = some o) : Alive (S + 1) [S] h := ⟨Heap.lt_size e, fun b hb => ⟨o, by rw [List.mem_singleton.mp hb]; exact e⟩⟩

/-- what list(..) of an iterator leaves of the heap -/
structure LsEnd (S : Addr) (n : Nat) (wr : List Addr) (Item : Nat → Value → Heap → Prop) (s s' : Shared) : Prop where
  heap : ∀ b o, b < S → b ∉ wr → s.heap.get? b = some o → s'.heap.get? b = some o
  bare : AllBare s.gens → AllBare s'.gens
  drawn : s'.drawn = s.drawn
  os : s'.os = s.os
  at' : ∃ acc c, s'.heap.get? S = some (lsO acc c) ∧ acc.size = n ∧ ∀ j v, acc[j]? = some v → Item j v s'.heap

section
variable {prog : Program} {w : World} {A : Around} {I S : Addr} {n : Nat} {Item : Nat → Value → Heap → Prop} {St : Nat → Shared → Prop} {wr : List Addr} {R : Result → Shared → Prop} {E : Value → Shared → Prop} {s : Shared}

theorem ext_loop (W : Iter prog w A.in1 I n Item St false (S + 1) wr [S]) (hn : n ≤ sizeLine) (hSw : S ∉ wr) (hMv : ∀ i v (s s' : Shared), Mv false (S + 1) wr s s' → Item i v s.heap → Item i v s'.heap) (res : Value) :
    ∀ (k i : Nat) (s : Shared) (acc : Array Value) (c : Nat), n - i = k → i ≤ n → St i s → s.heap.get? S = some (lsO acc c) → acc.size = i → (∀ j v, acc[j]? = some v → Item j v s.heap) →
    (∀ s', LsEnd S n wr Item s s' → R (.ok (.ret res)) s') →
    codeAny (model prog w) A (.builtin "list.extend.loop" ⟨[.ref S, .ref I, res], []⟩) R s := by
  intro k
  induction k with
  | zero =>
    intro i s acc c hk hi hst hS hacc hit hR
    have hin : i = n := by omega
    subst hin
    refine codeAny_builtin F.entry_extend_loop ?_
    rw [Around.under_plainId F.plain_extend_loop _]
    show wpAny _ A.in1 (pyNext (.ref I) >>= _) _ _ s
    refine wpAny_bind (W.done s _ _ hst fun s' hm => ?_)
    exact wpAny_pure (hR s' ⟨fun b o hb hw e => hm.heap b o e (okB.low (Nat.lt_succ_of_lt hb) hw), hm.bare, hm.drawn, hm.os, acc, c, hm.heap S _ hS (okB.low (Nat.lt_succ_self _) hSw), hacc, fun j v hj => hMv _ _ _ _ hm (hit j v hj)⟩)
  | succ k ih =>
    intro i s acc c hk hi hst hS hacc hit hR
    have hlt : i < n := by omega
    refine codeAny_builtin F.entry_extend_loop ?_
    rw [Around.under_plainId F.plain_extend_loop _]
    show wpAny _ A.in1 (pyNext (.ref I) >>= _) _ _ s
    refine wpAny_bind (W.item i s _ _ hlt hst fun v s' hP hst' hm => ?_)
    have hS' := hm.heap S _ hS (okB.low (Nat.lt_succ_self _) hSw)
    show wpAny _ A.in1 (updateSeq S (·.push v) >>= _) _ _ _
    refine wpAny_bind ?_
    have kbu : ∀ b o, b ≠ S → s'.heap.get? b = some o → (s'.heap.update S (Obj.mapSeq (·.push v))).get? b = some o := fun b o hb e => (Heap.get?_update_other _ _ (Ne.symm hb)).trans e
    have hSu := Heap.get?_update_self (Obj.mapSeq (·.push v)) hS' rfl
    refine wpAny_updateSeq hS' rfl (wpAny_pure ⟨plainId_quiet F.plain_extend_loop _, ih (i + 1) _ (acc.push v) _ (by omega) hlt (W.frame _ s' _ s'.toks hst' (fun b o hb e => kbu b o (fun q => hb (by rw [q]; simp)) e) fun _ => alive1 hSu) hSu (by rw [Array.size_push, hacc]) (fun j v' hj => ?_) fun s'' le => ?_⟩)
      (by rw [hacc]; omega) (by show (acc.push v).size ≤ sizeLine + 1; rw [Array.size_push, hacc]; omega)
    · have st : ∀ i v h, Item i v s'.heap → h = s'.heap.update S (Obj.mapSeq (·.push v)) → True := fun _ _ _ _ _ => trivial
      rw [Array.getElem?_push] at hj
      split at hj
      · rename_i hjs
        cases hj
        rw [hjs, hacc]
        exact W.stable _ _ _ _ hP fun b o hb e => kbu b o (fun q => hb (by rw [q]; simp)) e
      · exact W.stable _ _ _ _ (hMv _ _ _ _ hm (hit j v' hj)) fun b o hb e => kbu b o (fun q => hb (by rw [q]; simp)) e
    · exact hR s'' ⟨fun b o hb hw e => le.heap b o hb hw (kbu b o (Nat.ne_of_lt hb) (hm.heap b o e (okB.low (Nat.lt_succ_of_lt hb) hw))), fun h => le.bare (hm.bare h), le.drawn.trans hm.drawn, le.os.trans hm.os, le.at'⟩

theorem ext_gen {g : Nat} (W : Iter prog w A.in1 I n Item St false (S + 1) wr [S]) (hn : n ≤ sizeLine) (hSw : S ∉ wr) (hMv : ∀ i v (s s' : Shared), Mv false (S + 1) wr s s' → Item i v s.heap → Item i v s'.heap) (res : Value) (c₀ : Nat)
    (hG : s.heap.IsGen I g) (hst : St 0 s) (hS : s.heap.get? S = some (lsO #[] c₀)) (hR : ∀ s', LsEnd S n wr Item s s' → R (.ok (.ret res)) s') :
    wpAny (model prog w) A.in1 (Builtin.List.listExtendWith (.ref S) (.ref I) res)
      (fun fin s' => match fin with | .done f => R (.ok f) s' | .again c' => c'.quiet = true ∧ codeAny (model prog w) A c' R s') (fun e s' => R (.error e) s') s := by
  have hSI : S ≠ I := by
    rintro rfl
    obtain ⟨o, nm, qn, e, cg, _⟩ := hG
    rw [hS] at e; cases e; exact absurd cg (by simp)
  have hT : s.TypeIs (.ref I) "generator" := hG.typeIs
  unfold Builtin.List.listExtendWith
  refine wpAny_bind (wpAny_typeOf hT ?_)
  have h1 : Builtin.List.listSameRef (.ref S) (.ref I) = false := by simp [Builtin.List.listSameRef, hSI]
  have h2 : (Value.type "generator" == Value.type "list") = false := by decide
  have h3 : (Value.type "generator" == Value.type "tuple") = false := by decide
  simp only [h1, h2, h3, Bool.or_false, Bool.false_eq_true, if_false]
  refine wpAny_bind (W.self 0 _ _ _ hst ?_)
  refine wpAny_bind (wpAny_holding ?_)
  unfold Builtin.List.listLengthHint
  refine wpAny_bind (wpAny_specialOf hT F.gen_no_len ?_)
  show wpAny _ A.in1 (specialOf (Value.ref I) (Str.ofString "__length_hint__") >>= _) _ _ _
  refine wpAny_bind (wpAny_specialOf hT F.gen_no_hint ?_)
  refine wpAny_pure ?_
  show wpAny _ A.in1 (rule "list.extend.makes-room" >>= fun _ => Builtin.List.listTouch (.ref S) >>= fun _ =>
    again (.builtin "list.extend.loop" ⟨[.ref S, .ref I, res], []⟩)) _ _ _
  refine wpAny_bind (wpAny_rule ?_)
  refine wpAny_bind ?_
  show wpAny _ A.in1 (updateSeq S (·.push .none) >>= fun _ => updateSeq S (·.pop)) _ _ _
  refine wpAny_bind (wpAny_updateSeq hS rfl ?_)
  have hS₂ := Heap.get?_update_self (Obj.mapSeq (·.push Value.none)) hS rfl
  refine wpAny_updateSeq (hz := by seq_fits) hS₂ rfl ?_
  have hS₃ := Heap.get?_update_self (Obj.mapSeq (·.pop)) hS₂ rfl
  have oth : ∀ b o, b ≠ S → s.heap.get? b = some o → ((s.heap.update S (Obj.mapSeq (·.push Value.none))).update S (Obj.mapSeq (·.pop))).get? b = some o :=
    fun b o hb e => (Heap.get?_update_other _ _ (Ne.symm hb)).trans ((Heap.get?_update_other _ _ (Ne.symm hb)).trans e)
  refine wpAny_pure ⟨plainId_quiet F.plain_extend_loop _, ext_loop W hn hSw hMv _ n 0 _ _ _ rfl (Nat.zero_le _)
    (W.frame 0 s _ s.toks hst (fun b o hb e => oth b o (fun h => hb (by rw [h]; simp)) e) fun _ => alive1 hS₃) hS₃ rfl (fun j v hj => by simp at hj) fun s' le => ?_⟩
  exact hR s' ⟨fun b o hb hw e => le.heap b o hb hw (oth b o (Nat.ne_of_lt hb) e), le.bare, le.drawn, le.os, le.at'⟩

theorem list_init_gen {g : Nat} (W : Iter prog w A.in1 I n Item St false (S + 1) wr [S]) (hn : n ≤ sizeLine) (hSw : S ∉ wr) (hMv : ∀ i v (s s' : Shared), Mv false (S + 1) wr s s' → Item i v s.heap → Item i v s'.heap)
    (hG : s.heap.IsGen I g) (hst : St 0 s) (hS : s.heap.get? S = some (lsO #[] 0)) (hR : ∀ s', LsEnd S n wr Item s s' → R (.ok (.ret .none)) s') :
    wpAny (model prog w) A.in1 (Builtin.«list.__init__» ⟨[.ref S, .ref I], []⟩)
      (fun fin s' => match fin with | .done f => R (.ok f) s' | .again c' => c'.quiet = true ∧ codeAny (model prog w) A c' R s') (fun e s' => R (.error e) s') s := by
  have hSI : I ≠ S := by
    rintro rfl
    obtain ⟨o, nm, qn, e, cg, _⟩ := hG
    rw [hS] at e; cases e; exact absurd cg (by simp)
  show wpAny _ A.in1 (do let old ← Builtin.List.listItems (.ref S); Builtin.List.listUpdate (.ref S) (fun _ => #[]); letGo old.toList.reverse; Builtin.List.listExtendWith (.ref S) (.ref I) .none) _ _ s
  refine wpAny_bind ?_
  unfold Builtin.List.listItems
  refine wpAny_bind (wpAny_seqItems hS rfl (wpAny_pure ?_))
  show wpAny _ A.in1 (updateSeq S (fun _ => #[]) >>= fun _ => letGo (#[] : Array Value).toList.reverse >>= fun _ => Builtin.List.listExtendWith (.ref S) (.ref I) .none) _ _ s
  refine wpAny_bind (wpAny_updateSeq hS rfl ?_)
  have hS₂ := Heap.get?_update_self (Obj.mapSeq (fun _ => (#[] : Array Value))) hS rfl
  have oth : ∀ b o, b ≠ S → s.heap.get? b = some o → (s.heap.update S (Obj.mapSeq (fun _ => (#[] : Array Value)))).get? b = some o :=
    fun b o hb e => (Heap.get?_update_other _ _ (Ne.symm hb)).trans e
  refine wpAny_bind (wpAny_letGo ?_)
  refine ext_gen W hn hSw hMv .none _ (let ⟨o, nm, qn, e, r⟩ := hG; ⟨o, nm, qn, oth _ _ hSI e, r⟩) (W.frame 0 s _ s.toks hst (fun b o hb e => oth b o (fun h => hb (by rw [h]; simp)) e) fun _ => alive1 hS₂) hS₂ fun s' le => ?_
  exact hR s' ⟨fun b o hb hw e => le.heap b o hb hw (oth b o (Nat.ne_of_lt hb) e), le.bare, le.drawn, le.os, le.at'⟩
end

section
variable {w : World} {A : Around} {s : Shared} {base : Heap} {Q E : Value → Shared → Prop} {a g : Nat} {wr : List Addr} {sgs : List Sg}

/-- list(generator) -/
theorem list_gen (hh : A.handled = none) (hd : A.depth ≤ 315) (hu : A.units ≤ 60) (x : FiltIt w base a wr sgs s) (hG : s.heap.IsGen a g) (hwr : ∀ b ∈ wr, ∃ o, s.heap.get? b = some o) (hfit : sgs.length ≤ 100)
    (h : ∀ (cs : List Addr) c s', (∀ b o, b ∉ wr → s.heap.get? b = some o → s'.heap.get? b = some o) → (AllBare s.gens → AllBare s'.gens) → s'.drawn = s.drawn → s'.os = s.os → s'.heap.get? s.heap.objs.size = some (lsO (cs.map Value.ref).toArray c) → cs.length = sgs.length →
      (∀ (j : Nat) c g, cs[j]? = some c → sgs[j]? = some g → CharP (fun b => base.get? b = none) s'.heap c g) → Q (.ref s.heap.objs.size) s') :
    wpAny (model PySem.Challenge.rw_rk0003_01.row.prog w) A (call (.type "list") [.ref a]) Q E s := by
  refine callType_codes (Q₁ := fun obj s₁ => obj = .ref s.heap.objs.size ∧ s₁ = { s with heap := s.heap.push { cls := .type "list", data := .seq #[] } }) F.called_list (F.typeCall_list_1 _) F.entry_list_init
    (code_list_new _ ⟨rfl, rfl⟩) fun obj s₁ h₁ => ?_
  obtain ⟨rfl, rfl⟩ := h₁
  have hS : (s.heap.push { cls := .type "list", data := .seq #[] }).get? s.heap.objs.size = some { cls := .type "list", data := .seq #[] } := Heap.get?_push_size _ rfl
  have up : Keep s.heap (s.heap.push { cls := .type "list", data := .seq #[] }) := fun b o e => Heap.get?_push_of_some _ e
  have hSn : s.heap.get? s.heap.objs.size = none := Heap.get?_none_of_le (Nat.le_refl _)
  have hSw : s.heap.objs.size ∉ wr := fun q => let ⟨o, e⟩ := hwr _ q; by rw [hSn] at e; cases e
  obtain ⟨St, W, st⟩ := x A.in1.in1 hh hd (by show A.units + 1 + 1 ≤ 70; omega) [s.heap.objs.size] [] { s with heap := s.heap.push { cls := .type "list", data := .seq #[] } } up rfl (fun b hb => by
    rw [List.mem_singleton.mp hb]; exact ⟨hSn, Heap.lt_size hS⟩) (by simp) (alive1 hS).2
  have hsz : (s.heap.push { cls := .type "list", data := .seq #[] }).objs.size = s.heap.objs.size + 1 := Heap.size_push ..
  dsimp only at W
  rw [hsz] at W
  refine ⟨⟨_, hS, rfl⟩, F.args_list_init_2 _ _, list_init_gen (A := A.in1) W (Nat.le_trans hfit (by decide)) hSw ?_ (hG.keeps up) st hS fun s' le => ?_⟩
  · rintro i v s1 s2 hm ⟨c, g, e1, e2, c3⟩
    exact ⟨c, g, e1, e2, c3.keep fun b o p so e => hm.heap b o e (.inr ⟨fun q => p.2 (List.mem_append_right _ q), .inl so⟩)⟩
  · obtain ⟨acc, c, e1, e2, e3⟩ := le.at'
    have : ∀ (acc : List Value), (∀ (j : Nat) v, acc[j]? = some v → ∃ c, v = Value.ref c) → ∃ cs : List Addr, acc = cs.map Value.ref := by
      intro acc
      induction acc with
      | nil => exact fun _ => ⟨[], rfl⟩
      | cons v l ih =>
        intro hv
        obtain ⟨c, rfl⟩ := hv 0 v rfl
        obtain ⟨cs, rfl⟩ := ih fun j v hj => hv (j + 1) v hj
        exact ⟨c :: cs, rfl⟩
    obtain ⟨cs, hcs⟩ := this acc.toList fun j v hj => let ⟨c, g, e, _⟩ := e3 j v (by simpa using hj); ⟨c, e⟩
    have hacc : acc = (cs.map Value.ref).toArray := by rw [← hcs]
    subst hacc
    refine ⟨rfl, h cs c s' (fun b o hb e => le.heap b o (Heap.lt_size e) hb (up b o e)) le.bare le.drawn le.os e1 (by simpa using e2) fun j c g h1 h2 => ?_⟩
    obtain ⟨c', g', e, e', c3⟩ := e3 j (Value.ref c) (by simp [h1])
    cases e
    rw [h2] at e'; cases e'
    exact c3.mono fun b o _ p => p.1
end
end Mine
namespace Mine

def okS (g : Sg) : Prop := PyData.strOk g.ch = true ∧ PyData.strOk g.file = true
def sgD (g : Sg) : PyData := .tuple [.str g.ch, .str g.file, .int g.row, .int g.col]
/-- a list of told signs -/
structure ListAt (h : Heap) (a : Addr) (sgs : List Sg) : Prop where
  at' : ∃ ys n, h.get? a = some (listOf (List.toArray ys) n) ∧ ys.length = sgs.length ∧ ∀ (j : Nat) y g, ys[j]? = some y → sgs[j]? = some g → TupAt h y g

theorem sgD_reads {h : Heap} {y : Value} {g : Sg} (x : TupAt h y g) : Reads h y (sgD g) [] := by
  obtain ⟨a, t1, t2, t3, t4, rfl, e⟩ := x
  exact .tuple e rfl rfl (.cons (.str _ _) (.cons (.str _ _) (.cons (.int _ _) (.cons (.int _ _) .nil))))
theorem sgD_readsAll {h : Heap} : ∀ (ys : List Value) (sgs : List Sg), ys.length = sgs.length → (∀ (j : Nat) y g, ys[j]? = some y → sgs[j]? = some g → TupAt h y g) → ReadsAll h ys (sgs.map sgD) []
  | [], [], _, _ => .nil
  | y :: ys, g :: sgs, hl, ht => .cons (as := []) (bs := []) (sgD_reads (ht 0 y g rfl rfl)) (sgD_readsAll ys sgs (by simpa using hl) fun j y g h1 h2 => ht (j + 1) y g h1 h2)
theorem ListAt.reads {h : Heap} {a : Addr} {sgs : List Sg} (x : ListAt h a sgs) : Reads h (.ref a) (.list (sgs.map sgD)) [a] := by
  obtain ⟨ys, n, e, hl, ht⟩ := x.at'
  exact .list e rfl rfl (by simpa using sgD_readsAll ys sgs hl ht)
theorem sgD_lay : ∀ (sgs : List Sg), (∀ g ∈ sgs, okS g) → PyData.canLayAll0 (sgs.map sgD) = true ∧ PyData.depthAll (sgs.map sgD) ≤ 1
  | [], _ => ⟨rfl, by decide⟩
  | g :: sgs, h => by
    obtain ⟨h1, h2⟩ := sgD_lay sgs fun g' m => h g' (List.mem_cons_of_mem _ m)
    obtain ⟨k1, k2⟩ := h g List.mem_cons_self
    refine ⟨?_, ?_⟩
    · simp [PyData.canLayAll0, sgD, PyData.canLay0, k1, k2, h1]
    · simp only [List.map_cons, PyData.depthAll, sgD, PyData.depth]
      omega
theorem sgD_shaped {sgs : List Sg} (h : ∀ g ∈ sgs, okS g) : SeqAt.shaped (.list (sgs.map sgD)) = true := by
  obtain ⟨h1, h2⟩ := sgD_lay sgs h
  have h3 : (PyData.list (sgs.map sgD)).canLay0 = true := h1
  have h4 : (PyData.list (sgs.map sgD)).depth ≤ 2 := by
    show _ + 1 ≤ 2
    omega
  unfold SeqAt.shaped
  rw [h3, Bool.true_and]
  exact decide_eq_true (Nat.le_trans h4 (by decide))
theorem sgD_eqv {sgs : List Sg} (h : ∀ g ∈ sgs, okS g) : PyData.eqv (.list (sgs.map sgD)) (.list (sgs.map sgD)) = true :=
  SeqAt.eqv_refl _ (sgD_lay sgs h).1

section
variable {prog : Program} {w : World} {A : Around} {s : Shared} {E : Value → Shared → Prop} {Q : Value → Shared → Prop} {a b : Addr} {sgs : List Sg}
theorem told_eq (xa : ListAt s.heap a sgs) (xb : ListAt s.heap b sgs) (hs : ∀ g ∈ sgs, okS g) (hu : A.units + 64 < cLine) (h : Q (.bool true) s) : wpAny (model prog w) A (compareOp .Eq (.ref a) (.ref b)) Q E s :=
  eq_dataH xa.reads xb.reads (sgD_shaped hs) (sgD_shaped hs) hu (by rw [sgD_eqv hs]; exact h)
theorem told_ne (xa : ListAt s.heap a sgs) (xb : ListAt s.heap b sgs) (hs : ∀ g ∈ sgs, okS g) (hu : A.units + 64 < cLine) (h : Q (.bool false) s) : wpAny (model prog w) A (compareOp .NotEq (.ref a) (.ref b)) Q E s :=
  ne_dataH xa.reads xb.reads (sgD_shaped hs) (sgD_shaped hs) hu (by rw [sgD_eqv hs]; exact h)
end
end Mine
namespace Mine

section
variable {prog : Program} {w : World}
/-- entering a def that has cells, all facts told of the base -/
theorem enterC {A : Around} {s : Shared} {base : Heap} {K : Frag} {R : Result → Shared → Prop} {name qual : Str} {params : Arguments} {body : List Stmt} {scope : Scope} {dV kV doc pm cdv ct oc : Value} {an od : Option Addr} {osl : Array (Option Value)} {f : Addr} {args : Args} {binds : List (Str × Value)}
    (O : Over base s.heap) (X : K.In base) (hlim : base.NoLimit)
    (ho : K.lookup f = some ⟨oc, od, .func (fnOf name qual params body scope dV kV doc pm an cdv ct), osl⟩) (hcd : codeIn K cdv qual = true) (hroom : A.depth < recursionLimit)
    (hbind : BindsTo s (fnOf name qual params body scope dV kV doc pm an cdv ct) args binds) (hkind : (binds.all fun y => scope.names.lookup y.1 == some .local || scope.names.lookup y.1 == some .cell) = true)
    (hnd : ((cellsFrom 0 scope.names []).map (·.1)).Nodup)
    (h : ∀ L' h₁ tk cells, s.heap.get? L' = none → s.heap.objs.size ≤ L' → Keep s.heap h₁ → Fr base L' h₁ (bindL (envOfC qual scope L' f cdv).kindOf binds fun _ => none) →
      (∀ p ∈ cells, h₁.get? p.1 = some p.2 ∧ p.1 ≠ L' ∧ s.heap.get? p.1 = none) → CellsAre (bindC (envOfC qual scope L' f cdv).kindOf binds fun _ => none) (cellsFrom (L' + 1) scope.names []) cells →
      wpAny (model prog w) (A.deeper (envOfC qual scope L' f cdv)) (execs body (envOfC qual scope L' f cdv))
        (fun fl s' => R (.ok (.ret (match fl with | .ret v => v | _ => .none))) s')
        (fun e s' => wpAny (model prog w) (A.deeper (envOfC qual scope L' f cdv)) (leaving (envOfC qual scope L' f cdv) e) (fun _ s'' => R (.error e) s'') (fun e' s'' => R (.error e') s'') s')
        { s with heap := h₁, toks := tk })
    (hco : scope.isCoroutine = false) (hgen : scope.isGenerator = false) (hk : scope.kind = .function) : codeAny (model prog w) A (.call (.ref f) args) R s := by
  refine codeAny_call_function (fd := fnOf name qual params body scope dV kV doc pm an cdv ct) hroom (O.keep _ _ (X _ _ ho)) rfl hco hgen rfl (codeRec_of (X.keeps O.keep) hcd) (hbind _ _ _ _ ?_)
  refine wpAny_newFunctionEnv_cells hk (kindsX hkind _) fun env' he s' x => ?_
  subst he
  refine ⟨(hlim.keeps O.keep).keeps x.toInCall.keep, codeAny_func ?_⟩
  obtain ⟨h₁, tk, rfl, _⟩ := x.done
  have hk₁ := x.toInCall.keep
  obtain ⟨cells, NC, Y⟩ := Cl.news (h₀ := s.heap) (Nat.le_refl _) fun n c hm => ⟨x.cell n c (lookup_of_mem_nodup (cellsFrom_names scope.names 0 (s.heap.objs.size + 1) [] [] rfl ▸ hnd) hm), x.above n c hm⟩
  exact h s.heap.objs.size h₁ tk cells (Heap.get?_none_of_le (Nat.le_refl _)) (Nat.le_refl _) hk₁ ⟨x.toInCall.ns, fun b o e => hk₁ b o (O.keep b o e), O.size⟩ NC Y
end

/-! ## what _law_due computes -/
def chAt (text : Str) (i : Nat) : Str := ⟨#[text.cps.getD i 0]⟩
def dueStep (text : Str) (ns : List Int) (i : Nat) (found : List Sg) : List Sg :=
  if chAt text i = qm ∧ chAt text (i + 1) = qm then (match swapOf (chAt text (i + 2)) with
    | some d => found.take i ++ [⟨d, fileF ns i, rowF ns i, colF ns i⟩] ++ found.drop (i + 3)
    | none => found) else found
def sgsOf (text : Str) (ns : List Int) : List Sg := (List.range text.cps.size).map fun i => ⟨chAt text i, fileF ns i, rowF ns i, colF ns i⟩
/-- the steps from k - 1 down to 0 -/
def dueDown (text : Str) (ns : List Int) : Nat → List Sg → List Sg
  | 0, l => l
  | k + 1, l => dueDown text ns k (dueStep text ns k l)
def dueP (text : Str) (ns : List Int) : List Sg := dueDown text ns (text.cps.size - 2) (sgsOf text ns)

theorem sgsOf_get {text : Str} {ns : List Int} {i : Nat} (h : i < text.cps.size) : (sgsOf text ns)[i]? = some ⟨chAt text i, fileF ns i, rowF ns i, colF ns i⟩ := by
  simp [sgsOf, h]

theorem ListAt.keep {h h' : Heap} {a : Addr} {l : List Sg} (x : ListAt h a l) (k : Firm h h') (ka : ∀ o, h.get? a = some o → h'.get? a = some o) : ListAt h' a l := by
  obtain ⟨ys, n, e, hl, ht⟩ := x.at'
  exact ⟨ys, n, ka _ e, hl, fun j y g h1 h2 => (ht j y g h1 h2).firm k⟩
theorem swaps_at {p : Params} {h : Heap} (x : (hd.heap_39 p).In h) : SwapAt h 91 := kt_text_in x (by with_unfolding_all rfl)
/-! ## the slice of two signs -/
theorem slice2 {x : Str} {k : Nat} (h : k + 2 < x.length) : Txt.slice x (some (k : Int)) (some ((k : Int) + 2)) = ⟨#[x.cps.getD k 0, x.cps.getD (k + 1) 0]⟩ := by
  have hs : k + 2 < x.cps.size := h
  have e := slice_closesL (x := x) (i := (k : Int)) (j := (k : Int) + 2) (by omega) (by omega) (by omega)
  have e2 := eq_of_beq e
  rw [e2]
  have hl : x.cps.toList.length = x.cps.size := Array.length_toList
  have d1 : ((k : Int)).toNat = k := Int.toNat_natCast k
  have d2 : ((k : Int) + 2 - (k : Int)).toNat = 2 := by omega
  rw [d1, d2, List.drop_eq_getElem_cons (by omega : k < x.cps.toList.length), List.drop_eq_getElem_cons (by omega : k + 1 < x.cps.toList.length)]
  simp only [List.take_succ_cons, List.take_zero]
  congr 1
  simp [Array.getD, show k < x.cps.size by omega, show k + 1 < x.cps.size by omega]
theorem chAt_qm {x : Str} {k : Nat} : chAt x k = qm ↔ x.cps.getD k 0 = 63 := by
  unfold chAt
  constructor
  · intro h
    have : (#[x.cps.getD k 0] : Array Nat) = #[63] := congrArg Str.cps h
    simpa using this
  · intro h
    rw [h]; rfl
theorem slice2_eq {x : Str} {k : Nat} (h : k + 2 < x.length) : Txt.slice x (some (k : Int)) (some ((k : Int) + 2)) = Str.ofString "??" ↔ chAt x k = qm ∧ chAt x (k + 1) = qm := by
  rw [slice2 h, chAt_qm, chAt_qm]
  constructor
  · intro e
    have : (#[x.cps.getD k 0, x.cps.getD (k + 1) 0] : Array Nat) = #[63, 63] := congrArg Str.cps e
    simpa using this
  · rintro ⟨a, b⟩
    rw [a, b]; rfl
theorem dueStep_not {text : Str} {ns : List Int} {i : Nat} {l : List Sg} (h : ¬ (chAt text i = qm ∧ chAt text (i + 1) = qm)) : dueStep text ns i l = l := if_neg h
theorem dueStep_none {text : Str} {ns : List Int} {i : Nat} {l : List Sg} (h : chAt text i = qm ∧ chAt text (i + 1) = qm) (h2 : swapOf (chAt text (i + 2)) = none) : dueStep text ns i l = l := by
  unfold dueStep; rw [if_pos h, h2]
theorem dueStep_some {text : Str} {ns : List Int} {i : Nat} {l : List Sg} {d : Str} (h : chAt text i = qm ∧ chAt text (i + 1) = qm) (h2 : swapOf (chAt text (i + 2)) = some d) : dueStep text ns i l = l.take i ++ [⟨d, fileF ns i, rowF ns i, colF ns i⟩] ++ l.drop (i + 3) := by
  unfold dueStep; rw [if_pos h, h2]

/-! ## lists cut and put together -/
section
variable {prog : Program} {w : World} {A : Around} {E : Value → Shared → Prop} {s : Shared} {h₀ : Heap} {L l b : Addr} {m : Str → Option Value} {news : List (Addr × Obj)} {value slice : Expr} {vs ws : List Value} {n n2 : Nat} {k : Nat} {t : Tok} {Q : Value → Shared → Prop}
theorem cut_upto (F : Fr h₀ L s.heap m) (N : News h₀ L s.heap news) (hl : s.heap.get? l = some (listOf (List.toArray vs) n)) (hz : vs.length ≤ 200)
    (h : ∀ D h', Fr h₀ L h' m → News h₀ L h' ((D, listOf (List.toArray (vs.take k)) 0) :: news) → s.heap.get? D = none → Q (.ref D) { s with heap := h' })
    (hs : subscripted slice false (.ref l) (.ref s.heap.objs.size) = operate [.ref s.heap.objs.size, .ref l] (getItem (.ref l) (.ref s.heap.objs.size)) := by with_unfolding_all rfl)
    (ht : ∀ r, letTemporaryGo value (.ref l) r = pure () := by intro _; with_unfolding_all rfl) :
    wpAny (model prog w) A (subscriptTail value slice (.ref l) (.ref s.heap.objs.size)) Q E { s with heap := s.heap.push { cls := .type "slice", data := .fields #[.none, .int (k : Int) t, .none] } } :=
  slice_list F N (items := List.toArray vs) ⟨_, hl, rfl, _, rfl⟩ .none (.int _ _) (fun h' F' N' => h _ h' F' (by rw [slicePick_upto'] at N'; exact N') (Heap.get?_none_of_le (Nat.le_succ _))) hs ht (by rw [List.size_toArray]; exact Nat.le_trans hz (by decide))
theorem cut_from (F : Fr h₀ L s.heap m) (N : News h₀ L s.heap news) (hl : s.heap.get? l = some (listOf (List.toArray vs) n)) (hz : vs.length ≤ 200)
    (h : ∀ D h', Fr h₀ L h' m → News h₀ L h' ((D, listOf (List.toArray (vs.drop k)) 0) :: news) → s.heap.get? D = none → Q (.ref D) { s with heap := h' })
    (hs : subscripted slice false (.ref l) (.ref s.heap.objs.size) = operate [.ref s.heap.objs.size, .ref l] (getItem (.ref l) (.ref s.heap.objs.size)) := by with_unfolding_all rfl)
    (ht : ∀ r, letTemporaryGo value (.ref l) r = pure () := by intro _; with_unfolding_all rfl) :
    wpAny (model prog w) A (subscriptTail value slice (.ref l) (.ref s.heap.objs.size)) Q E { s with heap := s.heap.push { cls := .type "slice", data := .fields #[.int (k : Int) t, .none, .none] } } :=
  slice_list F N (items := List.toArray vs) ⟨_, hl, rfl, _, rfl⟩ (.int _ _) .none (fun h' F' N' => h _ h' F' (by rw [slicePick_from'] at N'; exact N') (Heap.get?_none_of_le (Nat.le_succ _))) hs ht (by rw [List.size_toArray]; exact Nat.le_trans hz (by decide))
theorem put_lists (F : Fr h₀ L s.heap m) (N : News h₀ L s.heap news) (hl : s.heap.get? l = some (listOf (List.toArray vs) n)) (hb : s.heap.get? b = some (listOf (List.toArray ws) n2)) (hz : vs.length + ws.length ≤ 400)
    (h : ∀ D h', Fr h₀ L h' m → News h₀ L h' ((D, listOf (List.toArray (vs ++ ws)) 0) :: news) → s.heap.get? D = none → Q (.ref D) { s with heap := h' }) :
    wpAny (model prog w) A (binaryOp .Add (.ref l) (.ref b)) Q E s :=
  add_lists F N ⟨_, hl, rfl, _, rfl⟩ ⟨_, hb, rfl, _, rfl⟩ (fun h' F' N' => h _ h' F' N' (Heap.get?_none_of_le (Nat.le_refl _))) (Nat.le_trans hz (by decide))
end

/-- two lists, held together member by member -/
def Prs (P : Value → Sg → Prop) (as : List Value) (bs : List Sg) : Prop := as.length = bs.length ∧ ∀ (j : Nat) y g, as[j]? = some y → bs[j]? = some g → P y g
theorem Prs.append {P : Value → Sg → Prop} {as as' : List Value} {bs bs' : List Sg} (x : Prs P as bs) (x' : Prs P as' bs') : Prs P (as ++ as') (bs ++ bs') := by
  refine ⟨by rw [List.length_append, List.length_append, x.1, x'.1], fun j y g h1 h2 => ?_⟩
  by_cases h : j < as.length
  · rw [List.getElem?_append_left h] at h1
    rw [List.getElem?_append_left (x.1 ▸ h)] at h2
    exact x.2 j y g h1 h2
  · have h' : as.length ≤ j := Nat.le_of_not_lt h
    rw [List.getElem?_append_right h'] at h1
    rw [List.getElem?_append_right (x.1 ▸ h'), ← x.1] at h2
    exact x'.2 _ y g h1 h2
theorem Prs.take {P : Value → Sg → Prop} {as : List Value} {bs : List Sg} (x : Prs P as bs) (k : Nat) : Prs P (as.take k) (bs.take k) := by
  refine ⟨by rw [List.length_take, List.length_take, x.1], fun j y g h1 h2 => ?_⟩
  rw [List.getElem?_take] at h1 h2
  split at h1
  · rename_i h
    rw [if_pos h] at h2
    exact x.2 j y g h1 h2
  · cases h1
theorem Prs.drop {P : Value → Sg → Prop} {as : List Value} {bs : List Sg} (x : Prs P as bs) (k : Nat) : Prs P (as.drop k) (bs.drop k) := by
  refine ⟨by rw [List.length_drop, List.length_drop, x.1], fun j y g h1 h2 => ?_⟩
  rw [List.getElem?_drop] at h1 h2
  exact x.2 _ y g h1 h2
theorem Prs.one {P : Value → Sg → Prop} {v : Value} {g : Sg} (h : P v g) : Prs P [v] [g] := by
  refine ⟨rfl, fun j y g' h1 h2 => ?_⟩
  cases j with
  | zero => cases h1; cases h2; exact h
  | succ j => simp at h1
theorem Prs.mono {P P' : Value → Sg → Prop} {as : List Value} {bs : List Sg} (x : Prs P as bs) (h : ∀ y g, P y g → P' y g) : Prs P' as bs := ⟨x.1, fun j y g h1 h2 => h _ _ (x.2 j y g h1 h2)⟩
theorem ListAt.of {h : Heap} {a : Addr} {ys : List Value} {l : List Sg} {n : Nat} (e : h.get? a = some (listOf (List.toArray ys) n)) (x : Prs (TupAt h) ys l) : ListAt h a l := ⟨ys, n, e, x.1, x.2⟩
end Mine
namespace Mine

def duJ (s : Shared) (L' nums : Addr) (vs : List Value) (ns : List Int) (n : Nat) (text : Str) (o1 o2 : Obj) (I : Addr) (i : Nat) (m : Str → Option Value) (h : Heap) : Prop :=
  ∃ (D : Addr) (u : Str → Option Value) (cur : List Sg), m = (fun y => if [Str.ofString "i"].contains y then u y else if y = Str.ofString "found" then some (.ref D) else none) ∧ ListAt h D cur ∧ dueDown text ns (text.cps.size - 2 - i) cur = dueP text ns ∧ cur.length ≤ 100 ∧
    h.get? nums = some (listOf vs.toArray n) ∧ h.get? (L' + 1 + 1) = some o1 ∧ h.get? (L' + 1) = some o2 ∧ Keep s.heap h ∧ s.heap.get? D = none ∧ D ≠ L' ∧ D ≠ I

section
variable {w : World} {A : Around} {s : Shared} {base : Heap} {loose : List Str} {mean : ExcName → Option Value} {mg mb : Str → Option Value} {Q E : Value → Shared → Prop} {nums : Addr} {vs : List Value} {ns : List Int} {n : Nat} {text : Str} {tt : Tok}

theorem due_spec :
   (hd.heap_39 w.params).In base → Top hd.view_39 loose mean mg mb base → Over base s.heap → A.handled = none → A.depth ≤ 310 → A.units ≤ 50 → base.get? nums = none → s.heap.get? nums = some (listOf vs.toArray n) → IntsAre vs ns → ns.length ≤ 16 → text.cps.size ≤ 100 →
   (∀ (a : Addr) (h' : Heap) (tk' : Nat), Keep s.heap h' → s.heap.get? a = none → ListAt h' a (dueP text ns) → Q (.ref a) { s with heap := h', toks := tk' }) →
   wpAny (model PySem.Challenge.rw_rk0003_01.row.prog w) A (call (.ref 115) [.str text tt, .ref nums] []) Q E s := by
  k_fill
  intro KX T O hh hdep hun hnb hl hi hfit htx h
  obtain ⟨hnd, dp, fr, gd, un⟩ := A
  dsimp only at hh hdep hun
  subst hh
  refine wpAny_call ?_
  refine enterC (binds := [(Str.ofString "text", .str text tt), (Str.ofString "nums", .ref nums)]) O KX T.nolimit rfl (by k_is) (Nat.lt_of_le_of_lt hdep (by decide)) (BindsTo.of_eq rfl) (by rfl) (by decide) ?_ rfl rfl rfl
  intro L' h₁ tk cells hLn hL k F' hcells Y
  have hY := CellsAre.two Y
  obtain ⟨o1, o2, hE', d1, d2⟩ := hY
  subst hE'
  have c1 := hcells _ (.head _)
  have c2 := hcells _ (.tail _ (.head _))
  have O' := Over.ofFr F'
  have hl' := k _ _ hl
  have hnL : nums ≠ L' := by rintro rfl; rw [hLn] at hl; cases hl
  replace d1 : o1.data = .cell (some (.ref nums)) := d1
  replace d2 : o2.data = .cell (some (.str text tt)) := d2
  replace F' : Fr base L' h₁ (fun _ => none) := F'
  have hcb : ∀ b, s.heap.get? b = none → base.get? b = none := fun b e => by
    cases q : base.get? b with
    | none => rfl
    | some o => rw [O.keep _ _ q] at e; cases e
  have N' : News base L' h₁ ((L' + 1 + 1, o1) :: (L' + 1, o2) :: (nums, listOf vs.toArray n) :: rest base L' [L' + 1 + 1, L' + 1, nums] h₁) := by
    intro p hp
    rcases List.mem_cons.mp hp with rfl | hp
    · exact ⟨c1.1, c1.2.1, hcb _ c1.2.2⟩
    rcases List.mem_cons.mp hp with rfl | hp
    · exact ⟨c2.1, c2.2.1, hcb _ c2.2.2⟩
    rcases List.mem_cons.mp hp with rfl | hp
    · exact ⟨hl', hnL, hnb⟩
    · exact rest_news p hp
  obtain ⟨own, hro⟩ : ∃ own, own = rest base L' [L' + 1 + 1, L' + 1, nums] h₁ := ⟨_, rfl⟩
  rw [← hro] at N'
  have hsz : text.length ≤ 100 := htx
  refine wpAny_execs_cons ?_
  refine Assign_ListComp_it (by rfl) rfl (by decide) rfl (by decide) rfl rfl rfl ?_
  repeat' (first | (k_unfold; (try dsimp only)) | ((fail_if_success (with_reducible show wpAny _ _ (pyIter _) _ _ _)); (first | walk1 | (dsimp only; walk1) | (leave1; try dsimp only))) | fail "no step")
  (rename IsRange _ _ _ _ _ _ _ _ => hrg); (rename Fr base L' _ _ => F2); (rename News base L' _ _ => N2)
  rename_i h2 tk2 _ _ _ k2
  refine wpAny_pyIter_range hrg (small_one (by decide) (by decide) (by omega) (by omega)) ?_
  dsimp only at k2 ⊢
  have hL2 := F2.ns.lt
  have upP : ∀ (oo : Obj) b o, h2.get? b = some o → (h2.push oo).get? b = some o := fun oo b o e => Heap.get?_push_of_some _ e
  refine ⟨h2.objs.size, text.length, true, [h2.objs.size], fun i v _ => ∃ t, v = .int (0 + (i : Int)) t, fun i y h => ∃ g, (sgsOf text ns)[i]? = some g ∧ TupAt h y g, _, rfl, ⟨?it, ?sz, ?low, ⟨_, F2.ns.push _⟩, ?lw, ?el, ?elm⟩, ?lw2, F2.ns.push _, ?fin⟩
  case it =>
    intro D C h3 tk3 k3 hD hC ⟨oD, eD⟩ ⟨oC, eC⟩
    refine ⟨_, _, Iter.ofWalks (LCg.range_walks (by exact rfl) 0 text.length) _ _ ?hcw ?hsol, fun i v h x => x, ?st⟩
    case hcw =>
      intro b hb
      rw [List.mem_singleton.mp hb]
      simp only [List.mem_cons, List.not_mem_nil, or_false, not_or]
      refine ⟨?_, ?_, Nat.ne_of_gt hL2⟩
      · rintro rfl; exact absurd hC (by rw [Heap.get?_push_size _ rfl]; simp)
      · rintro rfl; exact absurd hD (by rw [Heap.get?_push_size _ rfl]; simp)
    case hsol =>
      intro i h st b hb o e
      have hb' := List.mem_singleton.mp hb
      subst hb'
      have st' : h.get? _ = some _ := st
      rw [st'] at e
      cases e
      rintro (⟨a, q⟩ | q | q) <;> exact absurd q (by simp)
    case st =>
      show IsRangeIter _ _ _ _ _
      rw [rangeSize_nat] at k3
      simpa using k3 _ _ (Heap.get?_push_size _ rfl)
  case sz => exact Nat.le_trans hsz (by decide)
  case low =>
    intro b hb
    rw [List.mem_singleton.mp hb, Heap.size_push]
    exact Nat.lt_succ_self _
  case lw => exact fun hm => Nat.ne_of_lt hL2 (List.mem_singleton.mp hm)
  case lw2 => exact fun hm => Nat.ne_of_lt hL2 (List.mem_singleton.mp hm)
  case el => exact fun i y h h' kf ⟨g, e, t⟩ => ⟨g, e, t.firm kf⟩
  case elm =>
    rintro i v C s₃ m₃ hit ⟨ti, rfl⟩ hC hn hm kk kns
    obtain ⟨oC, eC, hoC⟩ := LCg.ns_obj hn
    have low2 : ∀ b o, b ≠ L' → h2.get? b = some o → s₃.heap.get? b = some o := fun b o hb e => kk b o (fun hm => (List.mem_cons.mp hm).elim hb fun hm => Nat.ne_of_lt (Heap.lt_size e) (List.mem_singleton.mp hm)) (upP _ b o e)
    have hLC : C ≠ L' := by
      rintro rfl
      obtain ⟨oL, _, _, eL, _⟩ := F2.ns
      rw [upP _ _ _ eL] at hC; cases hC
    have hCb : base.get? C = none := by
      cases q : base.get? C with
      | none => rfl
      | some o => rw [upP _ _ _ (F2.keep _ _ q)] at hC; cases hC
    have F3 : Fr base L' s₃.heap _ := ⟨kns _ (F2.ns.push _), fun b o e => low2 b o (fun q => by
      have := Heap.lt_size e
      rw [q] at this
      exact absurd (Nat.lt_of_lt_of_le this (Nat.le_trans O.size hL)) (Nat.lt_irrefl _)) (F2.keep _ _ e), F2.above⟩
    have m1 := N2 _ (.head _)
    have m2 := N2 _ (.tail _ (.head _))
    have m3 := N2 _ (.tail _ (.tail _ (.head _)))
    have N3 : News base L' s₃.heap ((C, oC) :: (L' + 1 + 1, o1) :: (L' + 1, o2) :: (nums, listOf vs.toArray n) :: rest base L' [] s₃.heap) := by
      intro p hp
      rcases List.mem_cons.mp hp with rfl | hp
      · exact ⟨eC, hLC, hCb⟩
      rcases List.mem_cons.mp hp with rfl | hp
      · exact ⟨low2 _ _ m1.2.1 m1.1, m1.2⟩
      rcases List.mem_cons.mp hp with rfl | hp
      · exact ⟨low2 _ _ m2.2.1 m2.1, m2.2⟩
      rcases List.mem_cons.mp hp with rfl | hp
      · exact ⟨low2 _ _ m3.2.1 m3.1, m3.2⟩
      exact rest_news p hp
    have O3 := Over.ofFr F3
    obtain ⟨own3, hro3⟩ : ∃ own3, own3 = rest base L' [] s₃.heap := ⟨_, rfl⟩
    rw [← hro3] at N3
    have fin := fun h' tk y (F9 : Fr base L' h' (fun _ => none)) (nw : List (Addr × Obj)) (N9 : News base L' h' nw) (hs : ∀ p ∈ own3, p ∈ nw) (z : ∃ g, (sgsOf text ns)[i]? = some g ∧ TupAt h' y g) => ElmEnd.mk' (El := fun y h => ∃ g, (sgsOf text ns)[i]? = some g ∧ TupAt h y g) (tk := tk) F3 F9 (rest_keep O3 F9 N9 (fun p hp => hs p (hro3 ▸ hp))) z
    k_steps
    (rename Fr base L' _ _ => F4); (rename News base L' _ _ => N4)
    have M4 := fun p hp => (N4 p hp).1
    refine place_spec (i := i) KX T (Over.ofFr F4) (Nat.lt_of_le_of_lt (Nat.succ_le_succ hdep) (by decide)) hnb (N4 (nums, _) (by k_mem)).1 hi hfit (by omega) (by omega) ?_
    intro tup t1 t2 t3 h4 tk4 k4 e4 e5
    have F5 := F4.keeps k4
    have N5 := news_add F4 (N4.grown k4) e4 e5
    try k_unmd
    try k_unfold
    try dsimp only
    k_steps
    try k_unmd
    try k_unfold
    try dsimp only
    (rename Fr base L' _ _ => F9); (rename News base L' _ _ => N9)
    have zz : Txt.item text (0 + (i : Int)) = chAt text i := txt_item hit
    have e9 := (N9 _ (.head _)).1
    rw [zz] at e9
    exact fin _ _ _ F9 _ N9 (fun p hp => .tail _ (.tail _ (.tail _ (.tail _ (.tail _ (.tail _ (.tail _ hp))))))) ⟨_, sgsOf_get hit, _, _, _, _, _, rfl, e9⟩
  case fin =>
    intro D ys s' h' tk out hns kb' hD hel
    have g1 : s'.gens = s.gens := out.gens rfl
    have g2 : s'.drawn = s.drawn := out.drawn
    have g3 : s'.os = s.os := out.os
    have hLI : ∀ b o, s.heap.get? b = some o → b ∉ [L', h2.objs.size] := fun b o e hm => by
      have lt := Heap.lt_size (k2 _ _ (k _ _ e))
      simp only [List.mem_cons, List.not_mem_nil, or_false] at hm
      rcases hm with rfl | rfl
      · exact absurd (Nat.lt_of_lt_of_le (Heap.lt_size e) hL) (Nat.lt_irrefl _)
      · exact Nat.lt_irrefl _ lt
    have ks : Keep s.heap h' := fun b o e => kb' b o (hLI b o e) (upP _ _ _ (k2 _ _ (k _ _ e)))
    have F6 : Fr base L' h' _ := ⟨hns, fun b o e => ks b o (O.keep b o e), F2.above⟩
    have low6 : ∀ b o, b ≠ L' → h2.get? b = some o → h'.get? b = some o := fun b o hb e => kb' b o (fun hm => (List.mem_cons.mp hm).elim hb fun hm => Nat.ne_of_lt (Heap.lt_size e) (List.mem_singleton.mp hm)) (upP _ b o e)
    have m1 := N2 _ (.head _)
    have m2 := N2 _ (.tail _ (.head _))
    have m3 := N2 _ (.tail _ (.tail _ (.head _)))
    have lsD : ListAt h' D (sgsOf text ns) := ⟨ys, ys.length, hD, by rw [out.len]; simp [sgsOf]; rfl, fun j y g hy hg => by
      obtain ⟨g', e, t⟩ := hel j y hy
      rw [hg] at e; cases e
      exact t⟩
    have Dnew : s.heap.get? D = none := by
      cases q : s.heap.get? D with
      | none => rfl
      | some o => have := out.new; rw [upP _ _ _ (k2 _ _ (k _ _ q))] at this; cases this
    have DL : D ≠ L' := by
      rintro rfl
      have : h2.get? D = none := by
        cases q : h2.get? D with
        | none => rfl
        | some o => have := out.new; rw [upP _ _ _ q] at this; cases this
      obtain ⟨oL, _, _, eL, _⟩ := F2.ns
      rw [this] at eL; cases eL
    have N6 : News base L' h' ((D, lstO ys) :: (L' + 1 + 1, o1) :: (L' + 1, o2) :: (nums, listOf vs.toArray n) :: rest base L' [] h') := by
      intro p hp
      rcases List.mem_cons.mp hp with rfl | hp
      · exact ⟨hD, DL, hcb _ Dnew⟩
      rcases List.mem_cons.mp hp with rfl | hp
      · exact ⟨low6 _ _ m1.2.1 m1.1, m1.2⟩
      rcases List.mem_cons.mp hp with rfl | hp
      · exact ⟨low6 _ _ m2.2.1 m2.1, m2.2⟩
      rcases List.mem_cons.mp hp with rfl | hp
      · exact ⟨low6 _ _ m3.2.1 m3.1, m3.2⟩
      exact rest_news p hp
    have O6 := Over.ofFr F6
    obtain ⟨own6, hro6⟩ : ∃ own6, own6 = rest base L' [] h' := ⟨_, rfl⟩
    rw [← hro6] at N6
    obtain ⟨sh, sg, sd, stk, so⟩ := s'
    dsimp only at g1 g2 g3 out ⊢
    subst g1 g2 g3
    clear F2 N2 hrg k2
    refine wpAny_execs_cons ?_
    refine wpAny_For ?_
    repeat' (first | (k_unfold; (try dsimp only)) | ((fail_if_success (with_reducible show wpAny _ _ (pyIter _) _ _ _)); (first | walk1 | (dsimp only; walk1) | (leave1; try dsimp only))) | fail "no step")
    (rename IsRange _ _ _ _ _ _ _ _ => hrg); (rename Fr base L' _ _ => F7); (rename News base L' _ _ => N7)
    rename_i h7 tk7 _ _ _ k7
    refine wpAny_pyIter_range hrg (small_down (by omega) (by omega) (by omega) (by omega)) ?_
    dsimp only at k7 ⊢
    have hL7 := F7.ns.lt
    refine for_iter (cw := []) (N0 := h7.objs.size + 1) (Iter.ofWalks (Walks.range (by exact rfl) h7.objs.size ((text.length : Int) - 3) (-1) (text.cps.size - 2)) _ _ ?hcw ?hsol) rfl rfl rfl ?hLw ?hLN ?hwr ?hst (F7.push _) (duJ s L' nums vs ns n text o1 o2 h7.objs.size) ?h0 ?hJ ?step ?hR
    case hcw =>
      intro b hb
      rw [List.mem_singleton.mp hb]
      simp only [List.mem_cons, List.not_mem_nil, or_false]
      exact Nat.ne_of_gt hL7
    case hsol =>
      intro i h st b hb o e
      have hb' := List.mem_singleton.mp hb
      subst hb'
      have st' : h.get? _ = some _ := st
      rw [st'] at e
      cases e
      rintro (⟨a, q⟩ | q | q) <;> exact absurd q (by simp)
    case hLw => exact fun hm => Nat.ne_of_lt hL7 (List.mem_singleton.mp hm)
    case hLN => exact Nat.lt_succ_of_lt hL7
    case hwr => intro b hb; rw [List.mem_singleton.mp hb]; exact next_is_new F7
    case hst =>
      show IsRangeIter _ _ _ _ _
      rw [rangeSize_downNat]
      have e : ((text.length : Int) - 3 - -1).toNat = text.cps.size - 2 := by
        show ((text.cps.size : Int) - 3 - -1).toNat = _
        omega
      rw [e]
      simpa using Heap.get?_push_size _ rfl
    case h0 =>
      have p1 := N7 _ (.head _)
      have p2 := N7 _ (.tail _ (.head _))
      have p3 := N7 _ (.tail _ (.tail _ (.head _)))
      have p4 := N7 _ (.tail _ (.tail _ (.tail _ (.head _))))
      refine ⟨D, _, sgsOf text ns, reM (stored := [Str.ofString "i"]) (fun y hy => rfl), (lsD.keep (fun b o so e => Heap.get?_push_of_some _ (k7 _ _ e)) fun o e => Heap.get?_push_of_some _ (k7 _ _ e)), rfl, by simpa [sgsOf] using htx, Heap.get?_push_of_some _ p4.1, Heap.get?_push_of_some _ p2.1, Heap.get?_push_of_some _ p3.1, fun b o e => Heap.get?_push_of_some _ (k7 _ _ (ks b o e)), Dnew, DL, Nat.ne_of_lt (Heap.lt_size p1.1)⟩
    case hJ =>
      rintro i m h h' ⟨mm, hns⟩ kh ⟨D, u, cur, rfl, z1, z2, z3, z4, z5, z6, z7, z8, z9, z10⟩
      have wide : ∀ b o, b ≠ L' → b ≠ h7.objs.size → h.get? b = some o → h'.get? b = some o := fun b o h1 h2 e => kh b o h1 (.inl ⟨rfl, .inr fun q => h2 (List.mem_singleton.mp q)⟩) e
      have lowS : ∀ b o, s.heap.get? b = some o → b < h7.objs.size := fun b o e => Heap.lt_size (k7 _ _ (ks _ _ e))
      have neL : ∀ b o, s.heap.get? b = some o → b ≠ L' := fun b o e q => by rw [q, hLn] at e; cases e
      refine ⟨D, u, cur, rfl, z1.keep (fun b o so e => kh b o (fun q => ?_) (.inl ⟨rfl, .inl so.solid⟩) e) (fun o e => wide D o z9 z10 e), z2, z3, wide _ _ hnL (Nat.ne_of_lt (lowS _ _ hl)) z4, wide _ _ m1.2.1 ?_ z5, wide _ _ m2.2.1 ?_ z6, fun b o e => wide b o (neL b o e) (Nat.ne_of_lt (lowS b o e)) (z7 b o e), z8, z9, z10⟩
      · obtain ⟨oL, es, ep, eL, dL, _⟩ := hns
        rw [q, eL] at e; cases e
        obtain ⟨its, k, dq⟩ := so.2
        rw [dL] at dq; cases dq
      · exact Nat.ne_of_lt (Heap.lt_size (k7 _ _ (low6 _ _ m1.2.1 m1.1)))
      · exact Nat.ne_of_lt (Heap.lt_size (k7 _ _ (low6 _ _ m2.2.1 m2.1)))
    case step =>
      rintro i v m₁ s₁ hit ⟨ti, rfl⟩ hstI ⟨D, u, cur, rfl, z1, z2, z3, z4, z5, z6, z7, z8, z9, z10⟩ F8
      obtain ⟨k0, hk⟩ : ∃ k0 : Nat, text.cps.size - 2 - i = k0 + 1 := ⟨text.cps.size - 2 - i - 1, by omega⟩
      have hv : ((text.length : Int) - 3 + (i : Int) * (-1)) = (k0 : Int) := by
        show ((text.cps.size : Int) - 3 + (i : Int) * (-1)) = _
        omega
      rw [hv] at F8
      rw [hk] at z2
      obtain ⟨ys', nD, eD, hlD, htD⟩ := z1.at'
      have nb : ∀ b, s.heap.get? b = none → base.get? b = none := hcb
      have N8 : News base L' s₁.heap ((D, listOf ys'.toArray nD) :: (L' + 1 + 1, o1) :: (L' + 1, o2) :: (nums, listOf vs.toArray n) :: rest base L' [] s₁.heap) := by
        intro p hp
        rcases List.mem_cons.mp hp with rfl | hp
        · exact ⟨eD, z9, hcb _ z8⟩
        rcases List.mem_cons.mp hp with rfl | hp
        · exact ⟨z5, m1.2⟩
        rcases List.mem_cons.mp hp with rfl | hp
        · exact ⟨z6, m2.2⟩
        rcases List.mem_cons.mp hp with rfl | hp
        · exact ⟨z4, m3.2⟩
        exact rest_news p hp
      have O8 := Over.ofFr F8
      obtain ⟨own8, hro8⟩ : ∃ own8, own8 = rest base L' [] s₁.heap := ⟨_, rfl⟩
      rw [← hro8] at N8
      have fin : ∀ (h' : Heap) (tk : Nat) (m9 : Str → Option Value), Fr base L' h' m9 → ∀ nw, News base L' h' nw → (∀ p ∈ own8, p ∈ nw) → ∀ (D' : Addr) (cur' : List Sg) (u' : Str → Option Value),
          m9 = (fun y => if [Str.ofString "i"].contains y then u' y else if y = Str.ofString "found" then some (.ref D') else none) → (KeepBut [L'] s₁.heap h' → ListAt h' D' cur') → dueDown text ns k0 cur' = dueP text ns → cur'.length ≤ 100 → s.heap.get? D' = none → D' ≠ L' → D' ≠ h7.objs.size →
          TurnEnd base L' [] (duJ s L' nums vs ns n text o1 o2 h7.objs.size (i + 1)) s₁ .next { heap := h', gens := s₁.gens, drawn := s₁.drawn, toks := tk, os := s₁.os } := by
        intro h' tk m9 F9 nw N9 hs D' cur' u' hm hl9 hd9 hc9 hD1 hD2 hD3
        have kb : KeepBut [L'] s₁.heap h' := rest_keep O8 F9 N9 (hro8 ▸ hs)
        have kk : ∀ b o, b ≠ L' → s₁.heap.get? b = some o → h'.get? b = some o := fun b o hb e => kb b o (by simpa using hb) e
        refine TurnEnd.mk' kb F9 ⟨D', u', cur', hm, hl9 kb, ?_, hc9, kk _ _ hnL z4, kk _ _ m1.2.1 z5, kk _ _ m2.2.1 z6, fun b o e => kk b o (fun q => by rw [q, hLn] at e; cases e) (z7 b o e), hD1, hD2, hD3⟩
        have e : text.cps.size - 2 - (i + 1) = k0 := by omega
        rw [e]; exact hd9
      have hm0 : ∀ (u : Str → Option Value) (vi : Option Value) (y : Str), [Str.ofString "i"].contains y = false → (if y = Str.ofString "i" then vi else (if [Str.ofString "i"].contains y = true then u y else if y = Str.ofString "found" then some (.ref D) else none)) = if y = Str.ofString "found" then some (.ref D) else none := fun u vi y hy => by
        rw [if_neg (by rintro rfl; simp at hy), hy]; rfl
      have kf : ∀ h', KeepBut [L'] s₁.heap h' → Firm s₁.heap h' := fun h' kb b o so e => kb b o (fun q => by
        rw [List.mem_singleton.mp q] at e
        obtain ⟨oL, es, ep, eL, dL, _⟩ := F8.ns
        replace eL : s₁.heap.get? L' = some oL := eL
        rw [eL] at e; cases e
        obtain ⟨its, k, dq⟩ := so.2
        rw [dL] at dq; cases dq) e
      have hk1 : k0 + 2 < text.length := by
        show k0 + 2 < text.cps.size
        omega
      refine wpAny_execs_cons ?_
      refine wpAny_If ?_
      repeat' (first | (k_unfold; (try dsimp only)) | ((fail_if_success (with_reducible show wpAny _ _ (subscriptTail _ _ (Value.str _ _) (Value.ref _)) _ _ _)); (first | walk1 | (dsimp only; walk1) | (leave1; try dsimp only))) | fail "no step")
      (rename Fr base L' _ _ => F8'); (rename News base L' _ _ => N8')
      refine slice_strN_ss F8' N8' (fun h9 t9 k9 F9 N9 => ?_) (hsz := Nat.le_trans hsz (by decide))
      try dsimp only
      repeat' (first | (k_unfold; (try dsimp only)) | ((fail_if_success (with_reducible show wpAny _ _ (compareOp CmpOp.In _ _) _ _ _)); (first | walk1 | (dsimp only; walk1) | (leave1; try dsimp only))) | fail "no step")
      case refine_2 =>
        rename_i hb
        have hno : ¬ (chAt text k0 = qm ∧ chAt text (k0 + 1) = qm) := fun q => by
          have := (slice2_eq hk1).mpr q
          rw [this] at hb; cases hb
        exact fin _ _ _ F9 _ N9 (fun p hp => .tail _ (.tail _ (.tail _ (.tail _ hp)))) D cur _ (reM (stored := [Str.ofString "i"]) (fun y hy => hm0 u _ y hy)) (fun kb => ⟨_, _, (N9 _ (.head _)).1, hlD, fun j y g h1 h2 => (htD j y g h1 h2).firm (fun b o so e => kf h9 kb b o so e)⟩) (by rw [← z2]; exact congrArg _ (dueStep_not hno).symm) z3 z8 z9 z10
      rename_i hb hone
      have hqm := (slice2_eq hk1).mp (eq_of_beq hb)
      have hit3 : Txt.item text ((k0 : Int) + 2) = chAt text (k0 + 2) := by
        have e := txt_item (text := text) (i := k0 + 2) hk1
        rw [Int.zero_add] at e
        exact e
      rw [hit3]
      refine in_swaps ((swaps_at KX).keep F9.keep) ?_
      cases hsw : swapOf (chAt text (k0 + 2)) with
      | none =>
        try dsimp only [Option.isSome]
        k_steps
        exact fin _ _ _ F9 _ N9 (fun p hp => .tail _ (.tail _ (.tail _ (.tail _ hp)))) D cur _ (reM (stored := [Str.ofString "i"]) (fun y hy => hm0 u _ y hy)) (fun kb => ⟨_, _, (N9 _ (.head _)).1, hlD, fun j y g h1 h2 => (htD j y g h1 h2).firm (fun b o so e => kf h9 kb b o so e)⟩) (by rw [← z2]; exact congrArg _ (dueStep_none hqm hsw).symm) z3 z8 z9 z10
      | some d =>
        try dsimp only [Option.isSome]
        repeat' (first | (k_unfold; (try dsimp only)) | ((fail_if_success (first | (with_reducible show wpAny _ _ (subscriptTail _ _ (Value.ref _) _) _ _ _) | (with_reducible show wpAny _ _ (binaryOp _ (Value.ref _) (Value.ref _)) _ _ _))); (first | walk1 | (dsimp only; walk1) | (leave1; try dsimp only))) | fail "no step")
        refine cut_upto (vs := ys') (k := k0) F9 N9 (N9 _ (.head _)).1 (by rw [hlD]; exact Nat.le_trans z3 (by decide)) (fun D1 h10 F10 N10 n10 => ?_)
        try dsimp only
        repeat' (first | (k_unfold; (try dsimp only)) | ((fail_if_success (first | (with_reducible show wpAny _ _ (subscriptTail _ _ (Value.ref _) _) _ _ _) | (with_reducible show wpAny _ _ (binaryOp _ (Value.ref _) (Value.ref _)) _ _ _))); (first | walk1 | (dsimp only; walk1) | (leave1; try dsimp only))) | fail "no step")
        rw [hit3]
        refine item_swaps ((swaps_at KX).keep F10.keep) hsw (fun td => ?_)
        try dsimp only
        repeat' (first | (k_unfold; (try dsimp only)) | ((fail_if_success (first | (with_reducible show wpAny _ _ (subscriptTail _ _ (Value.ref _) _) _ _ _) | (with_reducible show wpAny _ _ (binaryOp _ (Value.ref _) (Value.ref _)) _ _ _))); (first | walk1 | (dsimp only; walk1) | (leave1; try dsimp only))) | fail "no step")
        (rename Fr base L' _ _ => F11); (rename News base L' _ _ => N11)
        refine place_spec (i := k0) KX T (Over.ofFr F11) (Nat.lt_of_le_of_lt (Nat.succ_le_succ hdep) (by decide)) hnb (N11 (nums, _) (by k_mem)).1 hi hfit (by omega) (by omega) ?_
        intro tup t1 t2 t3 h12 tk12 k12 e11 e12
        have F12 := F11.keeps k12
        have N12 := news_add F11 (N11.grown k12) e11 e12
        clear N11 F11
        walk1
        repeat' (first | (k_unfold; (try dsimp only)) | ((fail_if_success (first | (with_reducible show wpAny _ _ (subscriptTail _ _ (Value.ref _) _) _ _ _) | (with_reducible show wpAny _ _ (binaryOp _ (Value.ref _) (Value.ref _)) _ _ _))); (first | walk1 | (dsimp only; walk1) | (leave1; try dsimp only))) | fail "no step")
        (rename Fr base L' _ _ => F13); (rename News base L' _ _ => N13)
        rename_i D2 _ _ L2 _ _
        refine put_lists (vs := ys'.take k0) (ws := [.ref D2]) F13 N13 (N13 (D1, _) (by k_mem)).1 (N13 _ (.head _)).1 (by simp only [List.length_take, List.length_cons, List.length_nil]; omega) (fun D3 h14 F14 N14 n14 => ?_)
        clear F13 N13
        try dsimp only
        repeat' (first | (k_unfold; (try dsimp only)) | ((fail_if_success (first | (with_reducible show wpAny _ _ (subscriptTail _ _ (Value.ref _) _) _ _ _) | (with_reducible show wpAny _ _ (binaryOp _ (Value.ref _) (Value.ref _)) _ _ _))); (first | walk1 | (dsimp only; walk1) | (leave1; try dsimp only))) | fail "no step")
        refine cut_from (vs := ys') (k := k0 + 3) F14 N14 (N14 (D, _) (by k_mem)).1 (by rw [hlD]; exact Nat.le_trans z3 (by decide)) (fun D4 h15 F15 N15 n15 => ?_)
        clear F14 N14
        try dsimp only
        refine put_lists (vs := ys'.take k0 ++ [.ref D2]) (ws := ys'.drop (k0 + 3)) F15 N15 (N15 (D3, _) (by k_mem)).1 (N15 _ (.head _)).1 (by simp only [List.length_take, List.length_cons, List.length_nil, List.length_append, List.length_drop]; omega) (fun D5 h16 F16 N16 n16 => ?_)
        have f15 : ∀ b, h15.get? b = none → base.get? b = none → b ≠ L' → s₁.heap.get? b = none := fun b e hb hL' => fresh_of (ex := []) (fun p hp => (N15 p hp).1) (fun p hp => by
          rw [← hro8] at hp
          exact List.mem_append_right [_, _, _, _, _, _, _, _, _, _, _] hp) e hb hL' (by simp)
        clear F15 N15
        try dsimp only
        k_steps
        (rename Fr base L' _ _ => F17); (rename News base L' _ _ => N17)
        have p17 := N17 _ (.head _)
        have pr8 : Prs (TupAt s₁.heap) ys' cur := ⟨hlD, htD⟩
        have nD5 : s₁.heap.get? D5 = none := f15 D5 n16 p17.2.2 p17.2.1
        exact fin _ _ _ F17 _ N17 (fun p hp => List.mem_append_right [_, _, _, _, _, _, _, _, _, _, _, _] hp) D5 _ _ (reM (stored := [Str.ofString "i"]) (r := fun y => if y = Str.ofString "found" then some (.ref D5) else none) (fun y hy => by
            by_cases q : y = Str.ofString "found"
            · simp only [if_pos q]
            · exact (if_neg q).trans ((hm0 u _ y hy).trans ((if_neg q).trans (if_neg q).symm))))
          (fun kb => ListAt.of p17.1 (((pr8.mono fun y g t => t.firm (kf _ kb)).take k0 |>.append (Prs.one (g := ⟨d, fileF ns k0, rowF ns k0, colF ns k0⟩) ⟨D2, td, t1, t2, t3, rfl, (N17 (D2, _) (by k_mem)).1⟩)).append (((pr8.mono fun y g t => t.firm (kf _ kb)).drop (k0 + 3)))))
          (by rw [← z2]; exact congrArg _ (dueStep_some hqm hsw).symm)
          (by simp only [List.length_take, List.length_cons, List.length_nil, List.length_append, List.length_drop]; omega)
          (by
            cases q : s.heap.get? D5 with
            | none => rfl
            | some o => rw [z7 _ _ q] at nD5; cases nD5)
          p17.2.1 (by
            intro q
            have e : s₁.heap.get? h7.objs.size = some _ := hstI
            rw [← q, nD5] at e; cases e)
    case hR =>
      rintro s' m' F3 ⟨D, u, cur, rfl, z1, z2, z3, z4, z5, z6, z7, z8, z9, z10⟩ hg hb hd ho
      have N3 : News base L' s'.heap [] := News.nil
      k_steps
      try dsimp only
      try k_unmd
      try k_unfold
      try dsimp only
      obtain ⟨sh, sg, sd, stk, so⟩ := s'
      dsimp only at hg hd ho z1 z7 ⊢
      rw [hg rfl, hd, ho]
      rw [Nat.sub_self] at z2
      have z2' : cur = dueP text ns := z2
      exact h D sh stk z7 z8 (z2' ▸ z1)
end
end Mine
namespace Mine

/-- the filter as one recursion on the list -/
def tri : List Sg → List Sg
  | a :: b :: c :: r => if a.ch = qm ∧ b.ch = qm then (match swapOf c.ch with
      | some d => { a with ch := d } :: tri r
      | none => a :: tri (b :: c :: r)) else a :: tri (b :: c :: r)
  | l => l
termination_by l => l.length

theorem tri_short {l : List Sg} (h : l.length ≤ 2) : tri l = l := by
  rcases l with _ | ⟨a, _ | ⟨b, _ | ⟨c, r⟩⟩⟩
  · rw [tri]; simp
  · rw [tri]; simp
  · rw [tri]; simp
  · simp at h
theorem tri_keep {a b c : Sg} {r : List Sg} (h : ¬ (a.ch = qm ∧ b.ch = qm ∧ (swapOf c.ch).isSome = true)) : tri (a :: b :: c :: r) = a :: tri (b :: c :: r) := by
  rw [tri]
  by_cases q : a.ch = qm ∧ b.ch = qm
  · rw [if_pos q]
    cases q3 : swapOf c.ch with
    | none => rfl
    | some d => exact absurd ⟨q.1, q.2, by rw [q3]; rfl⟩ h
  · rw [if_neg q]
theorem tri_swap {a b c : Sg} {r : List Sg} {d : Str} (h1 : a.ch = qm) (h2 : b.ch = qm) (h3 : swapOf c.ch = some d) : tri (a :: b :: c :: r) = { a with ch := d } :: tri r := by
  rw [tri, if_pos ⟨h1, h2⟩, h3]

theorem run_tri : ∀ (r bs : List Sg), bs.length ≤ 2 → run bs r = tri (bs ++ r)
  | [], bs, h => by rw [run_nil, List.append_nil, tri_short h]
  | x :: r, [], _ => by
    rw [run]
    · rw [run_tri r _ (by simp)]; rfl
    · simp
  | x :: r, [a], _ => by
    rw [run]
    · rw [run_tri r _ (by simp)]; rfl
    · simp
  | x :: r, [a, b], _ => by
    by_cases q : a.ch = qm ∧ b.ch = qm ∧ (swapOf x.ch).isSome = true
    · obtain ⟨d, hd⟩ := Option.isSome_iff_exists.mp q.2.2
      rw [run_swap q.1 q.2.1 hd, run_tri r [] (by simp)]
      exact (tri_swap q.1 q.2.1 hd).symm
    · rw [run_keep q, run_tri r [b, x] (by simp)]
      exact (tri_keep q).symm
  | _, _ :: _ :: _ :: _, h => by simp at h
theorem run_eq (l : List Sg) : run [] l = tri l := run_tri l [] (by simp)

theorem datumAt_mem {k d : Str} : ∀ (l : List (Str × Str)), KTD.datumAt k l = some d → ∃ p ∈ l, p.2 = d
  | [], e => by simp [KTD.datumAt] at e
  | (x, d') :: l, e => by
    have e' : (if decide (k = x) = true then some d' else KTD.datumAt k l) = some d := e
    by_cases h : k = x
    · rw [if_pos (decide_eq_true h)] at e'; cases e'
      exact ⟨_, List.mem_cons_self, rfl⟩
    · rw [if_neg (by simp [h])] at e'
      obtain ⟨p, m, q⟩ := datumAt_mem l e'
      exact ⟨p, List.mem_cons_of_mem _ m, q⟩
theorem SW_values : ∀ p ∈ SW, p.2 ≠ qm ∧ swapOf p.2 = none := by decide +kernel
theorem swap_value {k d : Str} (h : swapOf k = some d) : d ≠ qm ∧ swapOf d = none := by
  obtain ⟨p, m, rfl⟩ := datumAt_mem SW h
  exact SW_values p m

theorem tri_cons {s : Sg} {t : List Sg} (h : s.ch ≠ qm) : tri (s :: t) = s :: tri t := by
  rcases t with _ | ⟨b, _ | ⟨c, r⟩⟩
  · rw [tri_short (by simp), tri_short (by simp)]
  · rw [tri_short (by simp), tri_short (by simp)]
  · exact tri_keep fun q => h q.1

/-- the head of what the filter gives: the head itself or a swapped sign -/
theorem tri_head {a : Sg} {l : List Sg} : ∃ g t, tri (a :: l) = g :: t ∧ (g = a ∧ t = tri l ∨ g.ch ≠ qm ∧ swapOf g.ch = none) := by
  rcases l with _ | ⟨b, _ | ⟨c, r⟩⟩
  · exact ⟨a, [], tri_short (by simp), .inl ⟨rfl, (tri_short (by simp)).symm⟩⟩
  · exact ⟨a, [b], tri_short (by simp), .inl ⟨rfl, (tri_short (by simp)).symm⟩⟩
  · by_cases q : a.ch = qm ∧ b.ch = qm ∧ (swapOf c.ch).isSome = true
    · obtain ⟨d, hd⟩ := Option.isSome_iff_exists.mp q.2.2
      exact ⟨_, _, tri_swap q.1 q.2.1 hd, .inr (swap_value hd)⟩
    · exact ⟨a, _, tri_keep q, .inl ⟨rfl, rfl⟩⟩

theorem tri_idem : ∀ (n : Nat) (l : List Sg), l.length ≤ n → tri (tri l) = tri l
  | 0, l, h => by
    have : l = [] := List.length_eq_zero_iff.mp (Nat.le_zero.mp h)
    subst this
    rw [tri_short (l := []) (by simp), tri_short (l := []) (by simp)]
  | n + 1, l, h => by
    rcases l with _ | ⟨a, _ | ⟨b, _ | ⟨c, r⟩⟩⟩
    · rw [tri_short (l := []) (by simp), tri_short (l := []) (by simp)]
    · rw [tri_short (l := [a]) (by simp), tri_short (l := [a]) (by simp)]
    · rw [tri_short (l := [a, b]) (by simp), tri_short (l := [a, b]) (by simp)]
    · simp only [List.length_cons] at h
      by_cases q : a.ch = qm ∧ b.ch = qm ∧ (swapOf c.ch).isSome = true
      · obtain ⟨d, hd⟩ := Option.isSome_iff_exists.mp q.2.2
        rw [tri_swap q.1 q.2.1 hd, tri_cons (swap_value hd).1, tri_idem n r (by omega)]
      · rw [tri_keep q]
        have ih := tri_idem n (b :: c :: r) (by simp only [List.length_cons]; omega)
        obtain ⟨g1, t1, e1, h1⟩ := tri_head (a := b) (l := c :: r)
        rw [e1] at ih ⊢
        rcases t1 with _ | ⟨g2, t2⟩
        · exact tri_short (by simp)
        · have : ¬ (a.ch = qm ∧ g1.ch = qm ∧ (swapOf g2.ch).isSome = true) := by
            rintro ⟨q1, q2, q3⟩
            rcases h1 with ⟨rfl, e2⟩ | ⟨h1, _⟩
            · obtain ⟨g2', t2', e3, h2⟩ := tri_head (a := c) (l := r)
              rw [e3] at e2
              cases e2
              rcases h2 with ⟨rfl, _⟩ | ⟨_, h2⟩
              · exact q ⟨q1, q2, q3⟩
              · rw [h2] at q3; cases q3
            · exact h1 q2
          rw [tri_keep this, ih]
theorem run_idem (l : List Sg) : run [] (run [] l) = run [] l := by
  rw [run_eq, run_eq, tri_idem l.length l (Nat.le_refl _)]
theorem tri_append {S : List Sg} (h : ∀ (j : Nat) g, j < 2 → S[j]? = some g → swapOf g.ch = none) : ∀ (n : Nat) (L : List Sg), L.length ≤ n → tri (L ++ S) = tri L ++ tri S
  | _, [], _ => by rw [tri_short (l := []) (by simp)]; rfl
  | _, [a], _ => by
    rw [tri_short (l := [a]) (by simp)]
    rcases S with _ | ⟨p, _ | ⟨p', s⟩⟩
    · rw [tri_short (l := []) (by simp)]; exact tri_short (by simp)
    · rw [tri_short (l := [p]) (by simp)]; exact tri_short (by simp)
    · exact tri_keep fun q => by rw [h 1 p' (by omega) rfl] at q; cases q.2.2
  | 0, _ :: _ :: _, hl => by simp at hl
  | n + 1, [a, b], hl => by
    rw [tri_short (l := [a, b]) (by simp)]
    rcases S with _ | ⟨p, s⟩
    · rw [tri_short (l := []) (by simp)]; exact tri_short (by simp)
    · have e : tri ([a, b] ++ p :: s) = a :: tri ([b] ++ p :: s) := tri_keep fun q => by rw [h 0 p (by omega) rfl] at q; cases q.2.2
      rw [e, tri_append h n [b] (by simp at hl ⊢; omega), tri_short (l := [b]) (by simp)]; rfl
  | n + 1, a :: b :: c :: r, hl => by
    simp only [List.length_cons] at hl
    by_cases q : a.ch = qm ∧ b.ch = qm ∧ (swapOf c.ch).isSome = true
    · obtain ⟨d, hd⟩ := Option.isSome_iff_exists.mp q.2.2
      have e : tri (a :: b :: c :: r ++ S) = _ := tri_swap (r := r ++ S) q.1 q.2.1 hd
      rw [e, tri_swap q.1 q.2.1 hd, tri_append h n r (by omega)]; rfl
    · have e : tri (a :: b :: c :: r ++ S) = _ := tri_keep (r := r ++ S) q
      have e2 := tri_append h n (b :: c :: r) (by simp only [List.length_cons]; omega)
      rw [e, tri_keep q]
      show a :: tri (b :: c :: r ++ S) = _
      rw [e2]; rfl
end Mine
namespace Mine

theorem key_not_qm {k d : Str} (h : swapOf k = some d) : k ≠ qm := by
  rintro rfl
  have : swapOf qm = none := by decide +kernel
  rw [this] at h; cases h

theorem sgs_drop3 {text : Str} {ns : List Int} {i : Nat} (h : i + 2 < text.cps.size) : (sgsOf text ns).drop i = ⟨chAt text i, fileF ns i, rowF ns i, colF ns i⟩ :: ⟨chAt text (i + 1), fileF ns (i + 1), rowF ns (i + 1), colF ns (i + 1)⟩ :: ⟨chAt text (i + 2), fileF ns (i + 2), rowF ns (i + 2), colF ns (i + 2)⟩ :: (sgsOf text ns).drop (i + 3) := by
  have hl : (sgsOf text ns).length = text.cps.size := by simp [sgsOf]
  have g := fun j (hj : j < text.cps.size) => (List.getElem?_eq_some_iff.mp (sgsOf_get (ns := ns) hj)).2
  rw [List.drop_eq_getElem_cons (by omega), List.drop_eq_getElem_cons (by omega : i + 1 < _), List.drop_eq_getElem_cons (by omega : i + 1 + 1 < _), g i (by omega), g (i + 1) (by omega), g (i + 2) (by omega)]

theorem due_step_list {L : List Sg} {i : Nat} {a b c : Sg} {r : List Sg} (e : L.drop i = a :: b :: c :: r) :
    (if a.ch = qm ∧ b.ch = qm then (match swapOf c.ch with
      | some d => (L.take (i + 1) ++ tri (L.drop (i + 1))).take i ++ [{ a with ch := d }] ++ (L.take (i + 1) ++ tri (L.drop (i + 1))).drop (i + 3)
      | none => L.take (i + 1) ++ tri (L.drop (i + 1))) else L.take (i + 1) ++ tri (L.drop (i + 1))) = L.take i ++ tri (L.drop i) := by
  have hlen : i < L.length := by
    rcases Nat.lt_or_ge i L.length with h | h
    · exact h
    · rw [List.drop_eq_nil_of_le h] at e; cases e
  have e1 : L.drop (i + 1) = b :: c :: r := by
    have := congrArg List.tail e
    simpa using this
  have ea : L[i]? = some a := by
    have := congrArg (fun l => l[0]?) e
    simpa using this
  have t1 : L.take (i + 1) = L.take i ++ [a] := by
    rw [List.take_succ, ea]; rfl
  have lt : (L.take i).length = i := by rw [List.length_take]; omega
  rw [e1, t1, e]
  by_cases q : a.ch = qm ∧ b.ch = qm
  · rw [if_pos q]
    cases h3 : swapOf c.ch with
    | none =>
      rw [tri_keep (fun w => by rw [h3] at w; cases w.2.2), List.append_assoc]; rfl
    | some d =>
      have hc := key_not_qm h3
      rw [tri_swap q.1 q.2 h3]
      have tb : tri (b :: c :: r) = b :: c :: tri r := by
        rcases r with _ | ⟨x, r⟩
        · rw [tri_short (l := [b, c]) (by simp), tri_short (l := []) (by simp)]
        · rw [tri_keep (fun w => hc w.2.1), tri_cons hc]
      rw [tb]
      dsimp only
      have d3 : (L.take i ++ [a] ++ b :: c :: tri r).drop (i + 3) = tri r := by
        have : L.take i ++ [a] ++ b :: c :: tri r = (L.take i ++ [a, b, c]) ++ tri r := by simp
        rw [this, List.drop_left' (by simp [lt])]
      have d0 : (L.take i ++ [a] ++ b :: c :: tri r).take i = L.take i := by
        rw [List.append_assoc, List.take_left' lt]
      rw [d3, d0]; simp
  · rw [if_neg q, tri_keep (fun w => q ⟨w.1, w.2.1⟩), List.append_assoc]; rfl
theorem due_step {text : Str} {ns : List Int} {i : Nat} (h : i + 2 < text.cps.size) :
    dueStep text ns i ((sgsOf text ns).take (i + 1) ++ tri ((sgsOf text ns).drop (i + 1))) = (sgsOf text ns).take i ++ tri ((sgsOf text ns).drop i) :=
  due_step_list (sgs_drop3 h)
theorem due_down {text : Str} {ns : List Int} : ∀ k, k + 2 ≤ text.cps.size ∨ k = 0 → dueDown text ns k ((sgsOf text ns).take k ++ tri ((sgsOf text ns).drop k)) = tri (sgsOf text ns)
  | 0, _ => by simp [dueDown]
  | k + 1, h => by
    have h' : k + 2 < text.cps.size := by omega
    show dueDown text ns k (dueStep text ns k _) = _
    rw [due_step h', due_down k (by omega)]
theorem due_eq (text : Str) (ns : List Int) : dueP text ns = run [] (sgsOf text ns) := by
  have hl : (sgsOf text ns).length = text.cps.size := by simp [sgsOf]
  rw [run_eq, ← due_down (text := text) (ns := ns) (text.cps.size - 2) (by omega), tri_short (l := (sgsOf text ns).drop _) (by rw [List.length_drop]; omega), List.take_append_drop]
  rfl
end Mine
namespace Mine
def tails : List Str := ["??=", "?", "??", "???(", "", "?????/"].map Str.ofString
section
variable {w : World} {A : Around} {s : Shared} {base : Heap} {loose : List Str} {mean : ExcName → Option Value} {mg mb : Str → Option Value} {Q E : Value → Shared → Prop}
theorem tails_spec :
   (hd.heap_39 w.params).In base → Top hd.view_39 loose mean mg mb base → Over base s.heap → A.depth < recursionLimit →
   (∀ a ys n h' tk', Keep s.heap h' → s.heap.get? a = none → h'.get? a = some (listOf (List.toArray ys) n) → StrsAre ys tails → Q (.ref a) { s with heap := h', toks := tk' }) →
   wpAny (model PySem.Challenge.rw_rk0003_01.row.prog w) A (call (.ref 90) [] []) Q E s := by
  k_fill
  intro KX T O hroom h
  refine wpAny_call ?_
  refine enter (binds := []) O KX T.nolimit rfl (by k_is) hroom (BindsTo.of_eq rfl) (locs rfl) (fun y => (show List.lookup y _ = (fun _ : Str => (none : Option Value)) y from rfl)) ?_ rfl rfl rfl (by decide)
  intro L' h₁ hLn hL k F'
  have O' := Over.ofFr F'
  have N' : News base L' h₁ (rest base L' [] h₁) := rest_news
  obtain ⟨own, hro⟩ : ∃ own, own = rest base L' [] h₁ := ⟨_, rfl⟩
  rw [← hro] at N'
  k_unmd
  k_fold
  k_steps
  (rename Fr base L' _ _ => F9); (rename News base L' _ _ => N9)
  rename_i la ha l1
  have p9 := N9 _ (.head _)
  have kb : KeepBut [L'] h₁ _ := rest_keep O' F9 N9 fun p hp => .tail _ (hro ▸ hp)
  refine h _ _ _ _ _ (fun b o e => kb b o (fun q => ?_) (k b o e)) ?_ p9.1 (.cons _ _ (.cons _ _ (.cons _ _ (.cons _ _ (.cons _ _ (.cons _ _ .nil))))))
  · rw [List.mem_singleton.mp q, hLn] at e; cases e
  · cases q : s.heap.get? la with
    | none => rfl
    | some o => exact absurd (l1 _ (hro ▸ mem_rest p9.2.1 (by simp) p9.2.2 (k _ _ q))) (Nat.lt_irrefl _)
end
end Mine
namespace Mine

section
variable {prog : Program} {w : World} {A : Around} {s : Shared} {env : Env} {base : Heap} {m : Str → Option Value} {Q : Value → Shared → Prop} {E : Value → Shared → Prop}

/-- a comprehension over an iterator that was just made -/
theorem comp_at {elt : Expr} {x : Str} {scope : Scope} {cl : List (Str × Addr)} {n : Nat} {fp : List Addr} {P : Nat → Value → Prop} {St : Nat → Heap → Prop} {io : Obj} {El : Nat → Value → Heap → Prop}
    (F : Fr base env.locals s.heap m) (W : Walks prog w A s.heap.objs.size fp [s.heap.objs.size] n P St) (hfp : ∀ b ∈ fp, b = s.heap.objs.size ∨ (b ≠ env.locals ∧ ∃ o, s.heap.get? b = some o))
    (hfr : io.isFreed = false) (hst : ∀ h, Keep (s.heap.push io) h → St 0 h) (hsol : ∀ i h, St i h → ∀ o, h.get? s.heap.objs.size = some o → ¬ solid o) (hn : n ≤ 200)
    (hEl : ∀ i y h h', Firm h h' → El i y h → El i y h')
    (elm : ∀ i v C (s₃ : Shared) m₃ oC, i < n → P i v → s.heap.get? C = none → s₃.heap.get? C = some oC → LCg.NsObj oC m₃ → m₃ x = some v → Fr base env.locals s₃.heap m → (∀ b o, b ≠ env.locals → s.heap.get? b = some o → s₃.heap.get? b = some o) → C ≠ env.locals → base.get? C = none →
      wpAny (model prog w) A (eval elt (compEnvC scope cl C env)) (ElmEnd env.locals (El i) s₃) (fun _ _ => False) s₃) :
    CompAt prog w A env elt x scope cl s.heap.objs.size n true [s.heap.objs.size] (fun i v _ => P i v) El { s with heap := s.heap.push io } := by
  have hL2 := F.ns.lt
  have upP : ∀ b o, s.heap.get? b = some o → (s.heap.push io).get? b = some o := fun b o e => Heap.get?_push_of_some _ e
  have noneP : ∀ b, (s.heap.push io).get? b = none → s.heap.get? b = none := fun b e => by
    cases q : s.heap.get? b with
    | none => rfl
    | some o => rw [upP _ _ q] at e; cases e
  refine ⟨?it, Nat.le_trans hn (by decide), ?low, ⟨_, F.ns.push _⟩, ?lw, hEl, ?elm⟩
  case it =>
    intro D C h3 tk k3 hD hC ⟨oD, eD⟩ ⟨oC, eC⟩
    refine ⟨_, _, Iter.ofWalks W _ _ ?hcw ?hsol, fun i v h x => x, hst h3 k3⟩
    case hcw =>
      intro b hb
      simp only [List.mem_cons, List.not_mem_nil, or_false, not_or]
      rcases hfp b hb with rfl | ⟨hbL, o, eb⟩
      · refine ⟨?_, ?_, Nat.ne_of_gt hL2⟩
        · rintro rfl; exact absurd hC (by rw [Heap.get?_push_size _ hfr]; simp)
        · rintro rfl; exact absurd hD (by rw [Heap.get?_push_size _ hfr]; simp)
      · refine ⟨?_, ?_, hbL⟩
        · rintro rfl; have := noneP _ hC; rw [eb] at this; cases this
        · rintro rfl; have := noneP _ hD; rw [eb] at this; cases this
    case hsol =>
      intro i h st b hb o e
      rw [List.mem_singleton.mp hb] at e
      exact hsol i h st o e
  case low =>
    intro b hb
    rw [List.mem_singleton.mp hb, Heap.size_push]
    exact Nat.lt_succ_self _
  case lw => exact fun hm => Nat.ne_of_lt hL2 (List.mem_singleton.mp hm)
  case elm =>
    intro i v C s₃ m₃ hi hv hC hn₃ hm kk kns
    obtain ⟨oC, eC, hoC⟩ := LCg.ns_obj hn₃
    have low2 : ∀ b o, b ≠ env.locals → s.heap.get? b = some o → s₃.heap.get? b = some o := fun b o hb e => kk b o (fun hm => (List.mem_cons.mp hm).elim hb fun hm => Nat.ne_of_lt (Heap.lt_size e) (List.mem_singleton.mp hm)) (upP b o e)
    have hLC : C ≠ env.locals := by
      rintro rfl
      obtain ⟨oL, _, _, eL, _⟩ := F.ns
      rw [upP _ _ eL] at hC; cases hC
    have hCb : base.get? C = none := by
      cases q : base.get? C with
      | none => rfl
      | some o => rw [upP _ _ (F.keep _ _ q)] at hC; cases hC
    have F3 : Fr base env.locals s₃.heap m := ⟨kns _ (F.ns.push _), fun b o e => low2 b o (fun q => by
      have := Heap.lt_size e
      rw [q] at this
      exact absurd (Nat.lt_of_lt_of_le this F.above) (Nat.lt_irrefl _)) (F.keep _ _ e), F.above⟩
    exact elm i v C s₃ m₃ oC hi hv (noneP _ hC) eC hoC hm F3 low2 hLC hCb

theorem comp_walks {elt : Expr} {x : Str} {scope : Scope} {cl : List (Str × Addr)} {n : Nat} {fp : List Addr} {P : Nat → Value → Prop} {St : Nat → Heap → Prop} {io : Obj} {El : Nat → Value → Heap → Prop}
    (F : Fr base env.locals s.heap m) (W : Walks prog w A s.heap.objs.size fp [s.heap.objs.size] n P St) (hfp : ∀ b ∈ fp, b = s.heap.objs.size ∨ (b ≠ env.locals ∧ ∃ o, s.heap.get? b = some o))
    (hfr : io.isFreed = false) (hst : ∀ h, Keep (s.heap.push io) h → St 0 h) (hsol : ∀ i h, St i h → ∀ o, h.get? s.heap.objs.size = some o → ¬ solid o) (hn : n ≤ 200)
    (hEl : ∀ i y h h', Firm h h' → El i y h → El i y h')
    (elm : ∀ i v C (s₃ : Shared) m₃ oC, i < n → P i v → s.heap.get? C = none → s₃.heap.get? C = some oC → LCg.NsObj oC m₃ → m₃ x = some v → Fr base env.locals s₃.heap m → (∀ b o, b ≠ env.locals → s.heap.get? b = some o → s₃.heap.get? b = some o) → C ≠ env.locals → base.get? C = none →
      wpAny (model prog w) A (eval elt (compEnvC scope cl C env)) (ElmEnd env.locals (El i) s₃) (fun _ _ => False) s₃)
    (fin : ∀ D' ys h' tk, s.heap.get? D' = none → Fr base env.locals h' m → (∀ b o, b ≠ env.locals → s.heap.get? b = some o → h'.get? b = some o) → D' ≠ env.locals → base.get? D' = none → h'.get? D' = some (lstO ys) → ys.length = n → (∀ j y, ys[j]? = some y → El j y h') → Q (.ref D') { s with heap := h', toks := tk }) :
    ∃ I n gs wr Item El, Value.ref s.heap.objs.size = .ref I ∧ CompAt prog w A env elt x scope cl I n gs wr Item El { s with heap := s.heap.push io } ∧
      ∀ D ys s', CompOut env.locals gs wr El n { s with heap := s.heap.push io } D ys s' → Q (.ref D) s' := by
  have hL2 := F.ns.lt
  have upP : ∀ b o, s.heap.get? b = some o → (s.heap.push io).get? b = some o := fun b o e => Heap.get?_push_of_some _ e
  have noneP : ∀ b, (s.heap.push io).get? b = none → s.heap.get? b = none := fun b e => by
    cases q : s.heap.get? b with
    | none => rfl
    | some o => rw [upP _ _ q] at e; cases e
  refine ⟨s.heap.objs.size, n, true, [s.heap.objs.size], fun i v _ => P i v, El, rfl, comp_at F W hfp hfr hst hsol hn hEl elm, ?fin⟩
  case fin =>
    intro D ys s' out
    have g1 : s'.gens = s.gens := out.gens rfl
    have g2 : s'.drawn = s.drawn := out.drawn
    have g3 : s'.os = s.os := out.os
    have low6 : ∀ b o, b ≠ env.locals → s.heap.get? b = some o → s'.heap.get? b = some o := fun b o hb e => out.keep b o (fun hm => (List.mem_cons.mp hm).elim hb fun hm => Nat.ne_of_lt (Heap.lt_size e) (List.mem_singleton.mp hm)) (upP b o e)
    have F6 : Fr base env.locals s'.heap m := ⟨out.ns _ (F.ns.push _), fun b o e => low6 b o (fun q => by
      have := Heap.lt_size e
      rw [q] at this
      exact absurd (Nat.lt_of_lt_of_le this F.above) (Nat.lt_irrefl _)) (F.keep _ _ e), F.above⟩
    have Dnew := noneP _ out.new
    have DL : D ≠ env.locals := by
      rintro rfl
      obtain ⟨oL, _, _, eL, _⟩ := F.ns
      rw [Dnew] at eL; cases eL
    have Db : base.get? D = none := by
      cases q : base.get? D with
      | none => rfl
      | some o => rw [F.keep _ _ q] at Dnew; cases Dnew
    have res := fin D ys s'.heap s'.toks Dnew F6 low6 DL Db out.at' out.len out.el
    have e : s' = { s with heap := s'.heap, toks := s'.toks } := by
      obtain ⟨a, b, c, d, e⟩ := s'
      dsimp only at g1 g2 g3 ⊢
      rw [g1, g2, g3]
    rw [e]; exact res

/-- what a comprehension over a list asks, and what it hands on -/
structure OverL (prog : Program) (w : World) (A : Around) (env : Env) (elt : Expr) (x : Str) (scope : Scope) (cl : List (Str × Addr)) (base : Heap) (m : Str → Option Value) (l : Addr) (vs : List Value) (k : Nat) (El : Nat → Value → Heap → Prop) (s : Shared) : Prop where
  hh : A.handled = none
  fr : Fr base env.locals s.heap m
  hl : s.heap.get? l = some (listOf (List.toArray vs) k)
  hlL : l ≠ env.locals
  hn : vs.length ≤ 200
  hEl : ∀ i y h h', Firm h h' → El i y h → El i y h'
  elm : ∀ i v C (s₃ : Shared) m₃ oC, i < vs.length → vs[i]? = some v → s.heap.get? C = none → s₃.heap.get? C = some oC → LCg.NsObj oC m₃ → m₃ x = some v → Fr base env.locals s₃.heap m → (∀ b o, b ≠ env.locals → s.heap.get? b = some o → s₃.heap.get? b = some o) → C ≠ env.locals → base.get? C = none →
      wpAny (model prog w) A (eval elt (compEnvC scope cl C env)) (ElmEnd env.locals (El i) s₃) (fun _ _ => False) s₃
structure OverR (prog : Program) (w : World) (A : Around) (env : Env) (elt : Expr) (x : Str) (scope : Scope) (cl : List (Str × Addr)) (base : Heap) (m : Str → Option Value) (r : Addr) (n : Nat) (El : Nat → Value → Heap → Prop) (s : Shared) : Prop where
  hh : A.handled = none
  fr : Fr base env.locals s.heap m
  hr : ∃ t u v, IsRange s.heap r 0 (n : Int) 1 t u v
  hn : n ≤ 200
  hEl : ∀ i y h h', Firm h h' → El i y h → El i y h'
  elm : ∀ i v C (s₃ : Shared) m₃ oC, i < n → (∃ t, v = .int (0 + (i : Int)) t) → s.heap.get? C = none → s₃.heap.get? C = some oC → LCg.NsObj oC m₃ → m₃ x = some v → Fr base env.locals s₃.heap m → (∀ b o, b ≠ env.locals → s.heap.get? b = some o → s₃.heap.get? b = some o) → C ≠ env.locals → base.get? C = none →
      wpAny (model prog w) A (eval elt (compEnvC scope cl C env)) (ElmEnd env.locals (El i) s₃) (fun _ _ => False) s₃
structure CompEnd (base : Heap) (L : Addr) (m : Str → Option Value) (El : Nat → Value → Heap → Prop) (n : Nat) (h : Heap) (D : Addr) (ys : List Value) (h' : Heap) : Prop where
  new : h.get? D = none
  fr : Fr base L h' m
  low : KeepBut [L] h h'
  ne : D ≠ L
  nb : base.get? D = none
  at' : h'.get? D = some (lstO ys)
  len : ys.length = n
  el : ∀ j y, ys[j]? = some y → El j y h'

theorem eval_comp_list {elt iter : Expr} {x : Str} {px : Pos} {scope : Scope} {cl : List (Str × Addr)} {pos : Pos}
    (hclos : closureFor scope env = pure cl) (hcell : ∀ y ∈ scope.names, y.2 ≠ .cell) (hkind : scope.kind = .function)
    (hnames : ∀ y ∈ scope.names, y.2 = .local → scope.names.lookup y.1 = some .local) (hx : scope.names.lookup x = some .local)
    (h : wpAny (model prog w) A (eval iter env) (fun xv s₁ => ∃ base m l vs k El, xv = .ref l ∧ OverL prog w A env elt x scope cl base m l vs k El s₁ ∧
      ∀ D ys h' tk, CompEnd base env.locals m El vs.length s₁.heap D ys h' → Q (.ref D) { s₁ with heap := h', toks := tk }) E s)
    (hs : ∀ x, foldedSetIterable iter env x = pure x := by intro _; rfl) :
    wpAny (model prog w) A (eval (.ListComp elt [⟨.Name x px, iter, [], 0⟩] scope pos) env) Q E s := by
  refine ListComp_it hclos hcell hkind hnames hx (wpAny_mono h (fun xv s₁ h₁ => ?_) fun _ _ e => e) hs
  obtain ⟨base, m, l, vs, k, El, rfl, O, fin⟩ := h₁
  have hlt := Heap.lt_size O.hl
  refine wpAny_pyIter_list (items := List.toArray vs) ⟨_, O.hl, rfl, _, rfl⟩ ?_
  have W := Walks.list (prog := prog) (w := w) O.hh s₁.heap.objs.size l (Nat.ne_of_lt hlt) (List.toArray vs)
  have esz : (List.toArray vs).size = vs.length := List.size_toArray ..
  rw [esz] at W
  refine comp_walks O.fr W ?_ rfl ?_ ?_ O.hn O.hEl (fun i v C s₃ m₃ oC hi hv => O.elm i v C s₃ m₃ oC hi (by simpa using hv)) fun D ys h' tk h1 h2 h3 h4 h5 h6 h7 h8 => fin D ys h' tk ⟨h1, h2, fun b o hb e => h3 b o (by simpa using hb) e, h4, h5, h6, h7, h8⟩
  · intro b hb
    rcases List.mem_cons.mp hb with q | hb
    · exact .inl q
    · rw [List.mem_singleton.mp hb]; exact .inr ⟨O.hlL, _, O.hl⟩
  · exact fun h k => ⟨⟨_, k _ _ (Heap.get?_push_size _ rfl), rfl, rfl⟩, ⟨_, k _ _ (Heap.get?_push_of_some _ O.hl), rfl, _, rfl⟩⟩
  · rintro i h ⟨⟨o', e', c', _⟩, _⟩ o e
    rw [e] at e'; cases e'
    rintro (⟨a, q⟩ | q | q) <;> (rw [c'] at q; exact absurd q (by simp))

theorem assign_comp_range {elt iter : Expr} {x y : Str} {px py : Pos} {scope : Scope} {cl : List (Str × Addr)} {pos spos : Pos} {Q : Flow → Shared → Prop}
    (hsw : swapsWith (.ListComp elt [⟨.Name x px, iter, [], 0⟩] scope pos) (some (.Name y py)) spos.line env = pure true)
    (hclos : closureFor scope env = pure cl) (hcell : ∀ y ∈ scope.names, y.2 ≠ .cell) (hkind : scope.kind = .function)
    (hnames : ∀ y ∈ scope.names, y.2 = .local → scope.names.lookup y.1 = some .local) (hx : scope.names.lookup x = some .local)
    (hy : env.kindOf y = some .local) (hp : (env.scope.kind == .class || (env.scope.kind == .module && env.locals != env.globals)) = false)
    (h : wpAny (model prog w) A (eval iter env) (fun xv s₁ => ∃ base m r n El, xv = .ref r ∧ OverR prog w A env elt x scope cl base m r n El s₁ ∧
      ∀ D ys h' tk, CompEnd base env.locals (fun z => if z = y then some (.ref D) else m z) El n s₁.heap D ys h' → Q .next { s₁ with heap := h', toks := tk }) E s)
    (hs : ∀ x, foldedSetIterable iter env x = pure x := by intro _; rfl) :
    wpAny (model prog w) A (exec (.Assign [.Name y py] (.ListComp elt [⟨.Name x px, iter, [], 0⟩] scope pos) spos) env) Q E s := by
  refine Assign_ListComp_it hsw hclos hcell hkind hnames hx hy hp (wpAny_mono h (fun xv s₁ h₁ => ?_) fun _ _ e => e) hs
  obtain ⟨base, m, r, n, El, rfl, O, fin⟩ := h₁
  obtain ⟨t, u, v, hr⟩ := O.hr
  have hn := O.hn
  have F := O.fr
  have hL2 := F.ns.lt
  refine wpAny_pyIter_range hr (small_one (by decide) (by decide) (by omega) (by omega)) ?_
  have upP : ∀ (io : Obj) b o, s₁.heap.get? b = some o → (s₁.heap.push io).get? b = some o := fun io b o e => Heap.get?_push_of_some _ e
  refine ⟨s₁.heap.objs.size, n, true, [s₁.heap.objs.size], _, El, m, rfl, comp_at O.fr (LCg.range_walks O.hh 0 n) ?_ rfl ?_ ?_ O.hn O.hEl O.elm, fun hm => Nat.ne_of_lt hL2 (List.mem_singleton.mp hm), F.ns.push _, ?fin⟩
  · exact fun b hb => .inl (List.mem_singleton.mp hb)
  · intro h k
    show IsRangeIter _ _ _ _ _
    have e := k _ _ (Heap.get?_push_size s₁.heap rfl)
    rw [rangeSize_nat] at e
    simpa using e
  · intro i h st o e
    have st' : h.get? _ = some _ := st
    rw [st'] at e; cases e
    rintro (⟨a, q⟩ | q | q) <;> exact absurd q (by simp)
  case fin =>
    intro D ys s' h' tk out hns kb eD hel
    have g1 : s'.gens = s₁.gens := out.gens rfl
    have g2 : s'.drawn = s₁.drawn := out.drawn
    have g3 : s'.os = s₁.os := out.os
    have low6 : ∀ b o, b ≠ env.locals → s₁.heap.get? b = some o → h'.get? b = some o := fun b o hb e => kb b o (fun hm => (List.mem_cons.mp hm).elim hb fun hm => Nat.ne_of_lt (Heap.lt_size e) (List.mem_singleton.mp hm)) (upP _ b o e)
    have F6 : Fr base env.locals h' _ := ⟨hns, fun b o e => low6 b o (fun q => by
      have := Heap.lt_size e
      rw [q] at this
      exact absurd (Nat.lt_of_lt_of_le this F.above) (Nat.lt_irrefl _)) (F.keep _ _ e), F.above⟩
    have Dnew : s₁.heap.get? D = none := by
      cases q : s₁.heap.get? D with
      | none => rfl
      | some o => have := out.new; rw [upP _ _ _ q] at this; cases this
    have DL : D ≠ env.locals := by
      rintro rfl
      obtain ⟨oL, _, _, eL, _⟩ := F.ns
      rw [Dnew] at eL; cases eL
    have Db : base.get? D = none := by
      cases q : base.get? D with
      | none => rfl
      | some o => rw [F.keep _ _ q] at Dnew; cases Dnew
    have res := fin D ys h' tk ⟨Dnew, F6, fun b o hb e => low6 b o (by simpa using hb) e, DL, Db, eD, out.len, hel⟩
    obtain ⟨a, b, c, d, e⟩ := s'
    dsimp only at g1 g2 g3 ⊢
    rw [g1, g2, g3]
    exact res
end

theorem iter_list {prog : Program} {w : World} {A : Around} {s : Shared} {Q E : Value → Shared → Prop} {l : Addr} {items : Array Value} {n : Nat} (hl : s.heap.get? l = some (listOf items n))
    (h : ∀ I h', Keep s.heap h' → s.heap.get? I = none → (∃ o, h'.get? I = some o) → h'.IsListIter I l 0 → Q (.ref I) { s with heap := h' }) : wpAny (model prog w) A (call (.builtin "iter") [.ref l]) Q E s := by
  refine call_function_entry (by decide +kernel) (by decide +kernel) kdk_entry_iter (kdk_args_iter _) ?_
  unfold Builtin.«iter»
  refine wpAny_bind (m := someArgs "iter" 1 2 _) (wpAny_of_eq (a := [Value.ref l]) (by first | rfl | kernel_rfl!) ?_)
  show wpAny _ _ (pyIter (.ref l) >>= _) _ _ _
  refine wpAny_bind (wpAny_pyIter_list (items := items) ⟨_, hl, rfl, _, rfl⟩ ?_)
  exact wpAny_pure ⟨_, rfl, h _ _ (fun b o e => Heap.get?_push_of_some _ e) (Heap.get?_none_of_le (Nat.le_refl _)) ⟨_, Heap.get?_push_size _ rfl⟩ ⟨_, Heap.get?_push_size _ rfl, rfl, rfl⟩⟩

theorem strs_of_el {f : Int → Str} : ∀ (ys : List Value) (ns : List Int), ys.length = ns.length → (∀ (j : Nat) y, ys[j]? = some y → ∃ x t, ns[j]? = some x ∧ y = .str (f x) t) → StrsAre ys (ns.map f)
  | [], [], _, _ => .nil
  | y :: ys, n :: ns, hl, h => by
    obtain ⟨x, t, e, rfl⟩ := h 0 y rfl
    cases e
    exact .cons _ t (strs_of_el ys ns (by simpa using hl) fun j y hj => h (j + 1) y hj)
/-- one sign of a written row of signs -/
def pick (S : String) (k : Int) : Str := Txt.item (Str.ofString S) k
end Mine
namespace Mine

theorem cA_h (env : Env) : (callerA.deeper env).handled = none := rfl
theorem cA_depth (env : Env) : (callerA.deeper env).depth ≤ 310 := by
  show callerA.depth + 1 ≤ 310
  decide
theorem cA_units (env : Env) : (callerA.deeper env).units ≤ 50 := by
  show callerA.units + 3 ≤ 50
  decide
theorem cA_depth2 (env env' : Env) : ((callerA.deeper env).deeper env').depth ≤ 315 := by
  show callerA.depth + 1 + 1 ≤ 315
  decide
theorem cA_units2 (env env' : Env) : ((callerA.deeper env).deeper env').units ≤ 70 := by
  show callerA.units + 3 + 3 ≤ 70
  decide
/-- every sign of a text is within p -/
def AllC (p : Nat → Bool) (t : Str) : Prop := ∀ c ∈ t.cps.toList, p c = true
theorem AllC.of {p : Nat → Bool} {t : Str} (h : t.cps.toList.all p = true) : AllC p t := fun c hc => List.all_eq_true.mp h c hc
theorem AllC.append {p : Nat → Bool} {a b : Str} (x : AllC p a) (y : AllC p b) : AllC p (a ++ b) := by
  intro c hc
  have e : (a ++ b).cps.toList = a.cps.toList ++ b.cps.toList := Array.toList_append ..
  rw [e] at hc
  exact (List.mem_append.mp hc).elim (x c) (y c)
theorem AllC.empty {p : Nat → Bool} : AllC p Str.empty := fun c hc => by
  have : c ∈ ([] : List Nat) := hc
  cases this
theorem AllC.join {p : Nat → Bool} {sep : Str} (hs : AllC p sep) : ∀ (l : List Str), (∀ a ∈ l, AllC p a) → AllC p (Str.join sep l)
  | [], _ => AllC.empty
  | [x], h => h x List.mem_cons_self
  | x :: y :: r, h => ((h x List.mem_cons_self).append hs).append (AllC.join hs (y :: r) fun a ha => h a (List.mem_cons_of_mem _ ha))
theorem getD_of {p : Nat → Bool} (h0 : p 0 = true) {t : Str} (h : AllC p t) (i : Nat) : p (t.cps.getD i 0) = true := by
  by_cases hi : i < t.cps.size
  · have e : t.cps.getD i 0 = t.cps.toList[i]'(by simpa using hi) := by simp [Array.getD, hi]
    rw [e]
    exact h _ (List.getElem_mem _)
  · have e : t.cps.getD i 0 = 0 := by simp [Array.getD, hi]
    rw [e]; exact h0
theorem AllC.item {p : Nat → Bool} (h0 : p 0 = true) {t : Str} (h : AllC p t) (i : Int) : AllC p (Txt.item t i) := by
  intro c hc
  have hc' : c ∈ [(Txt.charAt t i).getD 0] := hc
  rw [List.mem_singleton.mp hc']
  unfold Txt.charAt
  cases seqIndex? i t.length with
  | none => exact h0
  | some j =>
    show p ((t.cps[j]?).getD 0) = true
    by_cases hi : j < t.cps.size
    · rw [Array.getElem?_eq_getElem hi]
      exact h _ (Array.getElem_mem_toList ..)
    · rw [Array.getElem?_eq_none (Nat.le_of_not_lt hi)]; exact h0
theorem AllC.chAt {p : Nat → Bool} (h0 : p 0 = true) {t : Str} (h : AllC p t) (i : Nat) : AllC p (chAt t i) := by
  intro c hc
  have hc' : c ∈ [t.cps.getD i 0] := hc
  rw [List.mem_singleton.mp hc']
  exact getD_of h0 h i
theorem AllC.strOk {t : Str} (h : AllC (fun c => decide (c < 128)) t) : PyData.strOk t = true := by
  unfold PyData.strOk
  rw [Array.all_eq_true']
  intro c hc
  have := h c (Array.mem_toList_iff.mpr hc)
  simp only [decide_eq_true_eq] at this ⊢
  omega

/-- a joined row of picked signs -/
def joined (S : String) (q : Int → Int) (ns : List Int) : Str := Txt.join (Str.ofString "") (ns.map fun x => pick S (q x))
theorem joined_size {S : String} {q : Int → Int} {ns : List Int} : (joined S q ns).length = ns.length := by
  unfold joined
  rw [KT.join_ones _ (fun a ha => by obtain ⟨b, _, rfl⟩ := List.mem_map.mp ha; exact len_item _ _), List.length_map]
theorem joined_all {p : Nat → Bool} (h0 : p 0 = true) {S : String} (hS : AllC p (Str.ofString S)) {q : Int → Int} {ns : List Int} : AllC p (joined S q ns) := by
  have e : joined S q ns = Str.join (Str.ofString "") (ns.map fun x => pick S (q x)) := eq_of_beq (join_plain_closes _ _)
  rw [e]
  exact AllC.join AllC.empty _ fun a ha => by
    obtain ⟨b, _, rfl⟩ := List.mem_map.mp ha
    exact hS.item h0 _

theorem ones_sum {S : String} {q : Int → Int} : ∀ ns : List Int, ((ns.map fun x => pick S (q x)).map (·.length)).sum = ns.length
  | [] => rfl
  | n :: ns => by
    have e := ones_sum (S := S) (q := q) ns
    simp only [List.map_cons, List.sum_cons, List.length_cons]
    rw [e]
    have e1 : (pick S (q n)).length = 1 := len_item _ _
    omega
def tailAt (k : Int) : Str := tails.getD k.toNat Str.empty
theorem fmod_lt (x : Int) {b : Int} (hb : 0 < b) : 0 ≤ x.fmod b ∧ x.fmod b < b := ⟨Int.fmod_nonneg_of_pos _ hb, Int.fmod_lt_of_pos _ hb⟩
theorem tailAt_at {k : Int} (h : 0 ≤ k ∧ k < 6) : tails[k.toNat]? = some (tailAt k) := by
  have hl : k.toNat < tails.length := by
    have : tails.length = 6 := rfl
    omega
  rw [List.getElem?_eq_getElem hl]
  unfold tailAt
  rw [List.getD_eq_getElem?_getD, List.getElem?_eq_getElem hl]; rfl
theorem tails_small : ∀ t ∈ tails, t.length ≤ 6 ∧ ∀ c ∈ t.cps.toList, decide (c < 128) = true := by decide +kernel
theorem tailAt_small {k : Int} : (tailAt k).length ≤ 6 ∧ AllC (fun c => decide (c < 128)) (tailAt k) := by
  unfold tailAt
  rw [List.getD_eq_getElem?_getD]
  cases q : tails[k.toNat]? with
  | none => exact ⟨Nat.zero_le _, AllC.empty⟩
  | some t => exact tails_small t (List.mem_of_getElem? q)
/-! ## signs of a text -/
def low (c : Nat) : Bool := decide (c < 128)
theorem fileF_all {ns : List Int} {i : Nat} : AllC low (fileF ns i) := by
  unfold fileF fileOf
  split
  · exact (by decide : ∀ c ∈ (Str.ofString "a.c").cps.toList, low c = true)
  · split
    · exact (by decide : ∀ c ∈ (Str.ofString "b.h").cps.toList, low c = true)
    · exact (by decide : ∀ c ∈ (Str.ofString "x").cps.toList, low c = true)
theorem sgs_ok {text : Str} (h : AllC low text) {ns : List Int} : ∀ g ∈ sgsOf text ns, okS g := by
  intro g hg
  obtain ⟨i, _, rfl⟩ := List.mem_map.mp hg
  exact ⟨(h.chAt rfl i).strOk, fileF_all.strOk⟩
theorem SW_ok : ∀ p ∈ SW, PyData.strOk p.2 = true := by decide +kernel
theorem swap_ok {k d : Str} (h : swapOf k = some d) : PyData.strOk d = true := by
  obtain ⟨p, m, rfl⟩ := datumAt_mem SW h
  exact SW_ok p m
theorem tri_ok : ∀ (n : Nat) (l : List Sg), l.length ≤ n → (∀ g ∈ l, okS g) → ∀ g ∈ tri l, okS g
  | 0, l, h, hl => by
    have : l = [] := List.length_eq_zero_iff.mp (Nat.le_zero.mp h)
    subst this
    rw [tri_short (l := []) (by simp)]; simp
  | n + 1, l, h, hl => by
    rcases l with _ | ⟨a, _ | ⟨b, _ | ⟨c, r⟩⟩⟩
    · rw [tri_short (l := []) (by simp)]; simp
    · rw [tri_short (l := [a]) (by simp)]; exact hl
    · rw [tri_short (l := [a, b]) (by simp)]; exact hl
    · simp only [List.length_cons] at h
      have ha := hl a List.mem_cons_self
      by_cases q : a.ch = qm ∧ b.ch = qm ∧ (swapOf c.ch).isSome = true
      · obtain ⟨d, hd⟩ := Option.isSome_iff_exists.mp q.2.2
        rw [tri_swap q.1 q.2.1 hd]
        intro g hg
        rcases List.mem_cons.mp hg with rfl | hg
        · exact ⟨swap_ok hd, ha.2⟩
        · exact tri_ok n r (by omega) (fun g hg => hl g (List.mem_cons_of_mem _ (List.mem_cons_of_mem _ (List.mem_cons_of_mem _ hg)))) g hg
      · rw [tri_keep q]
        intro g hg
        rcases List.mem_cons.mp hg with rfl | hg
        · exact ha
        · exact tri_ok n (b :: c :: r) (by simp only [List.length_cons]; omega) (fun g hg => hl g (List.mem_cons_of_mem _ hg)) g hg
theorem run_ok {l : List Sg} (h : ∀ g ∈ l, okS g) : ∀ g ∈ run [] l, okS g := by
  rw [run_eq]; exact tri_ok l.length l (Nat.le_refl _) h
theorem tri_len : ∀ (n : Nat) (l : List Sg), l.length ≤ n → (tri l).length ≤ l.length
  | 0, l, h => by
    have : l = [] := List.length_eq_zero_iff.mp (Nat.le_zero.mp h)
    subst this
    rw [tri_short (l := []) (by simp)]; simp
  | n + 1, l, h => by
    rcases l with _ | ⟨a, _ | ⟨b, _ | ⟨c, r⟩⟩⟩
    · rw [tri_short (l := []) (by simp)]; simp
    · rw [tri_short (l := [a]) (by simp)]; simp
    · rw [tri_short (l := [a, b]) (by simp)]; simp
    · simp only [List.length_cons] at h
      by_cases q : a.ch = qm ∧ b.ch = qm ∧ (swapOf c.ch).isSome = true
      · obtain ⟨d, hd⟩ := Option.isSome_iff_exists.mp q.2.2
        rw [tri_swap q.1 q.2.1 hd]
        have := tri_len n r (by omega)
        simp only [List.length_cons]; omega
      · rw [tri_keep q]
        have := tri_len n (b :: c :: r) (by simp only [List.length_cons]; omega)
        simp only [List.length_cons] at this ⊢; omega
theorem run_len (l : List Sg) : (run [] l).length ≤ l.length := by rw [run_eq]; exact tri_len l.length l (Nat.le_refl _)

/-! ## a text put behind a text -/
def sgsFrom (text : Str) (ns : List Int) (k : Nat) : List Sg := (List.range text.cps.size).map fun i => ⟨chAt text i, fileF ns (k + i), rowF ns (k + i), colF ns (k + i)⟩
theorem sgsOf_append (a b : Str) (ns : List Int) : sgsOf (a ++ b) ns = sgsOf a ns ++ sgsFrom b ns a.cps.size := by
  have hs : (a ++ b).cps.size = a.cps.size + b.cps.size := Array.size_append ..
  have e : (a ++ b).cps = a.cps ++ b.cps := rfl
  unfold sgsOf sgsFrom
  rw [hs, List.range_add, List.map_append, List.map_map]
  congr 1
  · refine List.map_congr_left fun i hi => ?_
    have hi' := List.mem_range.mp hi
    have : chAt (a ++ b) i = chAt a i := by
      unfold chAt; rw [e]; simp [Array.getD, hi', show i < a.cps.size + b.cps.size by omega, Array.getElem_append_left]
    rw [this]
  · refine List.map_congr_left fun i hi => ?_
    have hi' := List.mem_range.mp hi
    have : chAt (a ++ b) (a.cps.size + i) = chAt b i := by
      unfold chAt; rw [e]; simp [Array.getD, hi', Array.getElem_append_right]
    simp only [Function.comp, this]

/-! ## heaps that keep all but the frame -/
section
variable {base h h' : Heap} {L : Addr} {m : Str → Option Value} {nw : List (Addr × Obj)} {wr : List Addr}
theorem fr_but (F : Fr base L h m) (k : KeepBut wr h h') (hL : L ∉ wr) (hw : ∀ b ∈ wr, base.get? b = none) : Fr base L h' m :=
  ⟨F.ns.at' fun o e => k _ o hL e, fun b o e => k b o (fun q => by rw [hw b q] at e; cases e) (F.keep b o e), F.above⟩
theorem news_butL (N : News base L h nw) (k : KeepBut [L] h h') : News base L h' nw := fun p hp => ⟨k _ _ (fun q => (N p hp).2.1 (List.mem_singleton.mp q)) (N p hp).1, (N p hp).2⟩
theorem firm_of (F : Fr base L h m) (k : KeepBut [L] h h') : Firm h h' := fun b o so e => k b o (fun q => by
  rw [List.mem_singleton.mp q] at e
  obtain ⟨oL, es, ep, eL, dL, _⟩ := F.ns
  rw [eL] at e; cases e
  obtain ⟨its, k, dq⟩ := so.2
  rw [dL] at dq; cases dq) e
theorem ListAt.kept {a : Addr} {l : List Sg} (x : ListAt h a l) (F : Fr base L h m) (k : KeepBut [L] h h') (ha : a ≠ L) : ListAt h' a l := x.keep (firm_of F k) fun o e => k _ o (fun q => ha (List.mem_singleton.mp q)) e
/-- a heap that keeps all but the frame, and then all but some newer objects -/
theorem kb_newer {h₁ h₂ : Heap} (k : KeepBut [L] h h₁) (k2 : KeepBut wr h₁ h₂) (hn : ∀ b ∈ wr, b ≠ L → h.get? b = none) : KeepBut [L] h h₂ := fun b o hb e => k2 b o (fun q => by
  rw [hn b q (fun e' => hb (List.mem_singleton.mpr e'))] at e; cases e) (k b o hb e)
theorem none_of_kb {h₁ : Heap} {b : Addr} (k : KeepBut [L] h h₁) (hb : b ≠ L) (e : h₁.get? b = none) : h.get? b = none := by
  cases q : h.get? b with
  | none => rfl
  | some o => rw [k b o (fun q => hb (List.mem_singleton.mp q)) q] at e; cases e
theorem none_of_fr {b : Addr} (F : Fr base L h m) (e : h.get? b = none) : base.get? b = none ∧ b ≠ L := by
  refine ⟨?_, ?_⟩
  · cases q : base.get? b with
    | none => rfl
    | some o => rw [F.keep _ _ q] at e; cases e
  · rintro rfl
    obtain ⟨oL, _, _, eL, _⟩ := F.ns
    rw [e] at eL; cases eL
end
theorem chars_in {P P' : Addr → Prop} {h h' : Heap} {cs : List Addr} {text : Str} {ns : List Int} (hC : ∀ (j : Nat) (c : Addr), cs[j]? = some c → CharP P h c (sgAt text ns j)) (k : Keep h h') (hp : ∀ b, P b → P' b) :
    ∀ (j : Nat) c g, cs[j]? = some c → (sgsOf text ns)[j]? = some g → CharP P' h' c g := by
  intro j c g h1 h2
  have hj : j < text.cps.size := by
    have := (List.getElem?_eq_some_iff.mp h2).1
    simpa [sgsOf] using this
  rw [sgsOf_get hj] at h2
  cases h2
  exact ((hC j c h1).keep fun b o _ _ e => k b o e).mono fun b o _ => hp b
theorem sgsOf_len {text : Str} {ns : List Int} : (sgsOf text ns).length = text.cps.size := by simp [sgsOf]
/-- the frame is no object of a sign -/
theorem CharP.notL {P : Addr → Prop} {base h : Heap} {L : Addr} {m : Str → Option Value} {c : Addr} {g : Sg} {v : Value} (x : CharP P h c g) (F : Fr base L h m) (h1 : m (Str.ofString "char") = none) (h2 : m (Str.ofString "script") = some v) : CharP (fun b => P b ∧ b ≠ L) h c g := by
  obtain ⟨oL, es, ep, eL, dL, sk, hm⟩ := F.ns
  obtain ⟨dx, l, t, t1, t2, k1, k2, e1, e2, p1, p2, dl, u, u1, u2, u3, e3, e4, p3, p4⟩ := x
  refine ⟨dx, l, t, t1, t2, k1, k2, e1, e2, ⟨p1, ?_⟩, ⟨p2, ?_⟩, dl, u, u1, u2, u3, e3, e4, ⟨p3, ?_⟩, ⟨p4, ?_⟩⟩
  · rintro rfl; rw [eL] at e1; cases e1; cases dL
  · rintro rfl
    rw [eL] at e2; cases e2; cases dL
    have := hm (Str.ofString "char")
    rw [h1] at this
    have e : nsFind (#[⟨k1, .str (Str.ofString "char") t1, .str g.ch t⟩, ⟨k2, .str (Str.ofString "loc") t2, .ref l⟩] : Array DictEntry) (Str.ofString "char") = some (.str g.ch t) := by with_unfolding_all rfl
    rw [e] at this; cases this
  · rintro rfl; rw [eL] at e3; cases e3; cases dL
  · rintro rfl
    rw [eL] at e4; cases e4; cases dL
    have := hm (Str.ofString "script")
    rw [h2] at this
    have e : nsFind (#[] : Array DictEntry) (Str.ofString "script") = none := by with_unfolding_all rfl
    have this' : nsFind (#[] : Array DictEntry) (Str.ofString "script") = some v := this
    rw [e] at this'; cases this'

theorem mulq {q : Nat} (h : q < 4) : (Txt.mul (Str.ofString "?") (q : Int)).length = q ∧ AllC low (Txt.mul (Str.ofString "?") (q : Int)) ∧ ∀ i < q, chAt (Txt.mul (Str.ofString "?") (q : Int)) i = qm := by
  have e : q = 0 ∨ q = 1 ∨ q = 2 ∨ q = 3 := by omega
  rcases e with rfl | rfl | rfl | rfl
  · exact ⟨by decide +kernel, AllC.of (by decide +kernel), by decide +kernel⟩
  · exact ⟨by decide +kernel, AllC.of (by decide +kernel), by decide +kernel⟩
  · exact ⟨by decide +kernel, AllC.of (by decide +kernel), by decide +kernel⟩
  · exact ⟨by decide +kernel, AllC.of (by decide +kernel), by decide +kernel⟩

/-- the written table of swaps as a table of data -/
theorem swaps_tab {w : World} {h : Heap} (x : (hd.heap_39 w.params).In h) : StrTab PySem.Challenge.rw_rk0003_01.row.prog w h 91 (SW.map fun p => (PyData.str p.1, PyData.str p.2)) :=
  kt_tab_in (D := SW.map fun p => (p.1, PyData.str p.2)) _ w x (by with_unfolding_all rfl) (by decide +kernel) (by with_unfolding_all rfl)
theorem swaps_in {p : Params} {h : Heap} (x : (hd.heap_39 p).In h) : ∃ o, h.get? 91 = some o := by
  obtain ⟨_, o, _, _, e, _⟩ := swaps_at x
  exact ⟨o, e⟩
end Mine
namespace Mine

/-! ## the table the other way round -/
def WS : List (Str × Str) := SW.map fun p => (p.2, p.1)
def revOf (k : Str) : Option Str := KTD.datumAt k WS
theorem SW_at : ∀ p ∈ SW, swapOf p.1 = some p.2 := by decide +kernel
theorem datumAt_some {k d : Str} : ∀ (l : List (Str × Str)), KTD.datumAt k l = some d → (k, d) ∈ l
  | [], e => by simp [KTD.datumAt] at e
  | (x, d') :: l, e => by
    have e' : (if decide (k = x) = true then some d' else KTD.datumAt k l) = some d := e
    by_cases h : k = x
    · rw [if_pos (decide_eq_true h)] at e'; cases e'
      rw [h]; exact List.mem_cons_self
    · rw [if_neg (by simp [h])] at e'
      exact List.mem_cons_of_mem _ (datumAt_some l e')
theorem rev_swap {k x : Str} (h : revOf k = some x) : swapOf x = some k := by
  obtain ⟨p, hp, e⟩ := List.mem_map.mp (datumAt_some WS h)
  cases e
  exact SW_at p hp
theorem WS_fresh : ∀ i : Fin 9, ∀ p, WS[i.1]? = some p → p.1 ∉ (WS.take i.1).map (·.1) := by
  intro i p h
  have : ∀ i : Fin 9, (WS[i.1]?).all (fun p => decide (p.1 ∉ (WS.take i.1).map (·.1))) = true := by decide +kernel
  have := this i
  rw [h] at this
  simpa using this

theorem SwM.snoc {x d : Str} {t : Tok} : ∀ {kv : List (Str × Value)} {M : List (Str × Str)}, SwM kv M → SwM (kv ++ [(x, .str d t)]) (M ++ [(x, d)])
  | _, _, .nil => .cons .nil
  | _, _, .cons h => .cons (SwM.snoc h)
theorem SwM.keys : ∀ {kv : List (Str × Value)} {M : List (Str × Str)}, SwM kv M → kv.map (·.1) = M.map (·.1)
  | _, _, .nil => rfl
  | _, _, .cons h => by simp [SwM.keys h]
theorem SwM.length : ∀ {kv : List (Str × Value)} {M : List (Str × Str)}, SwM kv M → kv.length = M.length
  | _, _, .nil => rfl
  | _, _, .cons h => by simp [SwM.length h]
theorem stored_new {kv : List (Str × Value)} {x : Str} {v : Value} (h : x ∉ kv.map (·.1)) : stored kv x v = kv ++ [(x, v)] := by
  unfold stored
  rw [if_neg]
  intro q
  obtain ⟨p, hp, e⟩ := List.any_eq_true.mp q
  exact h (List.mem_map.mpr ⟨p, hp, by simpa using e⟩)
theorem SwM.valueAt {k : Str} : ∀ {kv : List (Str × Value)} {M : List (Str × Str)}, SwM kv M → (KTD.datumAt k M = none → valueAt kv k = none) ∧ ∀ d, KTD.datumAt k M = some d → ∃ t, valueAt kv k = some (.str d t)
  | _, _, .nil => ⟨fun _ => rfl, fun d e => by simp [KTD.datumAt] at e⟩
  | _, _, .cons (x := x) (d := d') (t := t) (l := l) (m := m) h => by
    have ih := SwM.valueAt (k := k) h
    have e0 : KTD.datumAt k ((x, d') :: m) = if decide (k = x) = true then some d' else KTD.datumAt k m := rfl
    have e1 : PySem.valueAt ((x, Value.str d' t) :: l) k = if x = k then some (.str d' t) else PySem.valueAt l k := by
      unfold PySem.valueAt
      rw [List.find?_cons]
      by_cases q : x = k
      · simp [q]
      · simp [q]
    rw [e0, e1]
    by_cases q : k = x
    · rw [if_pos (decide_eq_true q), if_pos q.symm]
      exact ⟨fun e => (by cases e), fun d e => ⟨t, by cases e; rfl⟩⟩
    · rw [if_neg (by simp [q]), if_neg (Ne.symm q)]
      exact ih

/-- the keys laid so far -/
def KeysAt (prog : Program) (w : World) (h : Heap) (dK : Addr) (M : List (Str × Str)) : Prop := ∃ o kv, h.get? dK = some o ∧ o.IsDictOf (PySem.strKind prog w) kv ∧ SwM kv M
def keyJ (prog : Program) (w : World) (L dK : Addr) (h0 : Heap) (m0 : Str → Option Value) (i : Nat) (m : Str → Option Value) (h : Heap) : Prop :=
  ∃ u : Str → Option Value, m = (fun y => if [Str.ofString "key"].contains y then u y else m0 y) ∧ KeysAt prog w h dK (WS.take i) ∧ ∀ b o, b ≠ L → b ≠ dK → h0.get? b = some o → h.get? b = some o
theorem KeysAt.step {prog : Program} {w : World} {h' : Heap} {dK : Addr} {i : Nat} {k d : Str} {t : Tok} {kv : List (Str × Value)} (hi : i < 9) (e3 : SwM kv (WS.take i)) (e : SW[i]? = some (k, d))
    (st : h'.DictOf (PySem.strKind prog w) dK (stored kv d (.str k t))) : KeysAt prog w h' dK (WS.take (i + 1)) := by
  have e4 : WS[i]? = some (d, k) := by unfold WS; rw [List.getElem?_map, e]; rfl
  have hn : d ∉ kv.map (·.1) := by rw [e3.keys]; exact WS_fresh ⟨i, hi⟩ _ e4
  obtain ⟨o', ho', hd'⟩ := Heap.dictOf_iff.mp st
  rw [stored_new hn] at hd'
  refine ⟨o', _, ho', hd', ?_⟩
  rw [List.take_succ, e4]
  exact e3.snoc
theorem swaps_key {i : Nat} {k : Str} {dv : PyData} (h : (SW.map fun p => (PyData.str p.1, PyData.str p.2))[i]? = some (.str k, dv)) : ∃ d, SW[i]? = some (k, d) ∧ swapOf k = some d := by
  rw [List.getElem?_map] at h
  cases q : SW[i]? with
  | none => rw [q] at h; cases h
  | some p =>
    rw [q] at h
    cases h
    exact ⟨p.2, rfl, SW_at p (List.mem_of_getElem? q)⟩

/-! ## the signs of the second row -/
def bsigns : List Nat := [0, 35, 91, 93, 123, 125, 126, 124, 92, 94, 97, 98, 122]
def bsign (c : Nat) : Bool := bsigns.contains c
theorem bsigns_are : ∀ c ∈ bsigns, swapOf ⟨#[c]⟩ = none ∧ (⟨#[c]⟩ : Str) ≠ qm ∧ low c = true := by decide +kernel
theorem bsign_is {c : Nat} (h : bsign c = true) : swapOf ⟨#[c]⟩ = none ∧ (⟨#[c]⟩ : Str) ≠ qm ∧ low c = true := bsigns_are c (List.contains_iff_mem.mp h)
theorem AllC.mono {p p' : Nat → Bool} {t : Str} (h : AllC p t) (hp : ∀ c, p c = true → p' c = true) : AllC p' t := fun c hc => hp c (h c hc)
/-- how a sign is spelled -/
def piece (s : Str) : Str := match revOf s with | some x => Str.ofString "??" ++ x | none => s
theorem rev_small : ∀ p ∈ WS, p.2.cps.size = 1 ∧ p.2.cps.toList.all low = true := by decide +kernel
theorem piece_size {c : Nat} : (piece ⟨#[c]⟩).length ≤ 3 := by
  unfold piece
  cases h : revOf ⟨#[c]⟩ with
  | none => exact Nat.le_of_ble_eq_true rfl
  | some x =>
    have e := (rev_small _ (datumAt_some WS h)).1
    show (Str.ofString "??" ++ x).length ≤ 3
    rw [Str.length_append]
    have e' : x.length = 1 := e
    have e2 : (Str.ofString "??").length = 2 := by decide +kernel
    omega
theorem piece_low {c : Nat} (hc : low c = true) : AllC low (piece ⟨#[c]⟩) := by
  unfold piece
  cases h : revOf ⟨#[c]⟩ with
  | none => exact fun d hd => by rw [List.mem_singleton.mp (show d ∈ [c] from hd)]; exact hc
  | some x => exact (AllC.of (by decide +kernel)).append (AllC.of (rev_small _ (datumAt_some WS h)).2)
theorem chAt_one {x : Str} (h : x.cps.size = 1) : chAt x 0 = x := by
  obtain ⟨⟨l⟩⟩ := x
  match l, h with
  | [a], _ => rfl
theorem sgsFrom_one {x : Str} (h : x.cps.size = 1) (ns : List Int) (k : Nat) : sgsFrom x ns k = [⟨x, fileF ns k, rowF ns k, colF ns k⟩] := by
  obtain ⟨⟨l⟩⟩ := x
  match l, h with
  | [a], _ => rfl
theorem sgsFrom_three {x : Str} (h : x.cps.size = 1) (ns : List Int) (k : Nat) : sgsFrom (Str.ofString "??" ++ x) ns k = [⟨qm, fileF ns k, rowF ns k, colF ns k⟩, ⟨qm, fileF ns (k + 1), rowF ns (k + 1), colF ns (k + 1)⟩, ⟨x, fileF ns (k + 2), rowF ns (k + 2), colF ns (k + 2)⟩] := by
  obtain ⟨⟨l⟩⟩ := x
  match l, h with
  | [a], _ => rfl
/-- one sign more, spelled behind a text -/
theorem spell_step {t : Str} {ns : List Int} {c : Nat} (hc : bsign c = true) : tri (sgsOf (t ++ piece ⟨#[c]⟩) ns) = tri (sgsOf t ns) ++ [⟨⟨#[c]⟩, fileF ns t.cps.size, rowF ns t.cps.size, colF ns t.cps.size⟩] := by
  obtain ⟨h1, h2, h3⟩ := bsign_is hc
  rw [sgsOf_append]
  unfold piece
  cases h : revOf ⟨#[c]⟩ with
  | none =>
    show tri (_ ++ sgsFrom ⟨#[c]⟩ ns _) = _
    rw [sgsFrom_one rfl]
    rw [tri_append (fun j g hj e => by
      match j, hj with
      | 0, _ => cases e; exact h1
      | 1, _ => cases e) _ _ (Nat.le_refl _), tri_short (l := [_]) (by simp)]
  | some x =>
    show tri (_ ++ sgsFrom (Str.ofString "??" ++ x) ns _) = _
    have hq : swapOf qm = none := by decide +kernel
    rw [sgsFrom_three (rev_small _ (datumAt_some WS h)).1]
    rw [tri_append (fun j g hj e => by
      match j, hj with
      | 0, _ => cases e; exact hq
      | 1, _ => cases e; exact hq) _ _ (Nat.le_refl _), tri_swap rfl rfl (rev_swap h), tri_short (l := []) (by simp)]
/-- question marks alone are left as they are -/
theorem tri_qm {t : Str} {ns : List Int} (h : t.cps.size ≤ 3) (hq : ∀ i < t.cps.size, chAt t i = qm) : tri (sgsOf t ns) = sgsOf t ns := by
  have hl : (sgsOf t ns).length ≤ 3 := by rw [sgsOf_len]; exact h
  have ha : ∀ g ∈ sgsOf t ns, g.ch = qm := by
    intro g hg
    obtain ⟨i, hi, rfl⟩ := List.mem_map.mp hg
    exact hq i (List.mem_range.mp hi)
  have hn : swapOf qm = none := by decide +kernel
  generalize sgsOf t ns = l at hl ha
  rcases l with _ | ⟨a, _ | ⟨b, _ | ⟨c, _ | ⟨d, r⟩⟩⟩⟩
  · exact tri_short (by simp)
  · exact tri_short (by simp)
  · exact tri_short (by simp)
  · rw [tri_keep (fun q => by rw [ha c (by simp), hn] at q; cases q.2.2), tri_short (l := [b, c]) (by simp)]
  · simp only [List.length_cons] at hl; omega

def signJ (L D2 : Addr) (h0 : Heap) (ns : List Int) (m0 : Str → Option Value) (i : Nat) (m : Str → Option Value) (h : Heap) : Prop :=
  ∃ (u : Str → Option Value) (sp : Str) (ts : Tok) (cur : List Sg), m = (fun y => if [Str.ofString "sign"].contains y then u y else if y = Str.ofString "spelled" then some (.str sp ts) else m0 y) ∧ ListAt h D2 cur ∧ tri (sgsOf sp ns) = cur ∧
    sp.length ≤ 3 + 3 * i ∧ cur.length ≤ 3 + i ∧ AllC low sp ∧ ∀ b o, b ≠ L → b ≠ D2 → h0.get? b = some o → h.get? b = some o
end Mine
namespace Mine
theorem end_raises (args : List WData) : ∀ cls, PySem.Challenge.rw_rk0003_01.row.claim.raises args cls = false := by
  exact fun _ => rfl
theorem end_post (args : List WData) : PySem.Challenge.rw_rk0003_01.row.claim.post args (.bool true) args = true := by
  wrow_post
theorem end_mem {h₀ h : Heap} (k : ∀ b o, h₀.get? b = some o → h.get? b = some o) : Mem h₀ h [] [] := ⟨fun b o e _ => k b o e, fun p hp => absurd hp List.not_mem_nil, List.nodup_nil, fun p hp => absurd hp List.not_mem_nil, List.Pairwise.nil⟩
theorem end_any {c : ClaimW} {cl : Str → Option Addr} {mean : ExcName → Option Value} {args : List WData} {s₁ : Shared} {h : Heap} {g : Array GenState} {d : Drawn} {t : Nat} (hr : ∀ cls, c.raises args cls = false) (hp : c.post args (.bool true) args = true)
    (k : ∀ b o, s₁.heap.get? b = some o → h.get? b = some o) (hb : AllBare g) : GoodWG c cl mean args s₁ (.ok (.ret (.bool true))) ⟨h, g, d, t, s₁.os⟩ :=
  x_endG (end_mem k) hr hp hb
theorem law_end {s₀ s₁ : Shared} {args : List WData} {h : Heap} {g : Array GenState} {d : Drawn} {t : Nat} (k : ∀ b o, s₁.heap.get? b = some o → h.get? b = some o) (hb : AllBare g) :
    GoodWG PySem.Challenge.rw_rk0003_01.row.claim (classAt s₀.heap) (ExcName.means s₀.heap) args s₁ (.ok (.ret (.bool true))) ⟨h, g, d, t, s₁.os⟩ :=
  end_any (end_raises args) (end_post args) k hb
end Mine
namespace Mine
theorem final : PySem.Challenge.rw_rk0003_01.Holds := hd (by
  lge_go0
  rename_i w s₀ s₁ mg mb G Y fa o pm doc ho hg KX X V GL T B TE TW ma mo M w8 w7 B0 hcd ns63 hs hlay0 hLay hr hl2 w5 w4 sc vs63 w1 hsc ra hW r0 hI hrW hlen hc2 K0 hD h₁ tk₁ F oc hoc N0 X0 lgeM
  clear lgeM B0 X0 K0 hD hcd hrW hW r0 ra hr hl2 hlay0 hs M TW TE B GL V X G Y ho hc2
  dsimp only at F hoc N0 ⊢
  replace F : Fr s₁.heap s₁.heap.objs.size h₁ (fun y => if y = Str.ofString "script" then some (.ref sc) else none) := F
  replace hoc : oc.data = .cell none := hoc
  generalize hLL : s₁.heap.objs.size = L at F N0 ⊢
  all_goals try k_fold
  repeat' (first | (k_unfold; (try dsimp only)) | ((fail_if_success (first | (with_reducible show wpAny _ _ (eval (Expr.ListComp _ _ _ _) _) _ _ _) | (with_reducible show wpAny _ _ (binaryOp _ (Value.ref _) (Value.ref _)) _ _ _))); (first | walk1 | (dsimp only; walk1) | (leave1; try dsimp only))) | fail "no step")
  (try dsimp only)
  rename_i nums vs hq1 hi hc16 hle l1 hq2 on dn hq3 tkq tsum hh F1 N1
  obtain ⟨ns, hns⟩ : ∃ ns, ns = List.take 16 ns63 := ⟨_, rfl⟩
  rw [← hns] at hi hc16 F1
  have hfit : ns.length ≤ 16 := by omega
  have hvs := hi.length
  refine eval_comp_list (cl := []) rfl (by decide) rfl (by decide) rfl ?_
  walk1
  refine ⟨s₁.heap, _, nums, vs, 0, fun i y _ => ∃ x t, ns[i]? = some x ∧ y = .str (pick "????????=(/)'<!>-#\na" (x.fmod 20)) t, rfl, ⟨rfl, F1, (N1 _ (.head _)).1, (N1 _ (.head _)).2.1, by omega, fun i y h h' _ x => x, ?elm⟩, ?fin⟩
  case elm =>
    intro i v C s₃ m₃ oC hii hv hC eC hoC hm F3 low hCL hCb
    obtain ⟨x, tx, rfl, hx⟩ := hi.at _ _ hv
    have N3 : News s₁.heap L s₃.heap [(C, oC)] := by
      intro p hp
      rw [List.mem_singleton.mp hp]
      exact ⟨eC, hCL, hCb⟩
    have fin := fun (tk : Nat) (y : Value) (z : ∃ x t, ns[i]? = some x ∧ y = Value.str (pick "????????=(/)'<!>-#\na" (x.fmod 20)) t) => ElmEnd.mk' (El := fun y _ => ∃ x t, ns[i]? = some x ∧ y = .str (pick "????????=(/)'<!>-#\na" (x.fmod 20)) t) (tk := tk) F3 F3 (KeepBut.refl _ _) z
    k_steps
    exact fin _ _ ⟨x, _, hx, rfl⟩
  case fin =>
    intro D1 ys1 h2 tk2 c1
    try dsimp only
    have F2 := c1.fr
    have n1 := N1 _ (.head _)
    have n2 := N1 _ (.tail _ (.head _))
    have low2 := fun b o (hb : b ≠ L) => c1.low b o (fun q => hb (List.mem_singleton.mp q))
    have N2 : News s₁.heap L h2 [(D1, lstO ys1), (nums, listOf (List.toArray vs) 0), (L + 1, on)] := by
      intro p hp
      rcases List.mem_cons.mp hp with rfl | hp
      · exact ⟨c1.at', c1.ne, c1.nb⟩
      rcases List.mem_cons.mp hp with rfl | hp
      · exact ⟨low2 _ _ n1.2.1 n1.1, n1.2⟩
      rw [List.mem_singleton.mp hp]
      exact ⟨low2 _ _ n2.2.1 n2.1, n2.2⟩
    have ss1 := strs_of_el ys1 ns (by rw [c1.len, hvs]) c1.el
    clear c1 low2 N1 F1
    repeat' (first | (k_unfold; (try dsimp only)) | ((fail_if_success (first | (with_reducible show wpAny _ _ (call (Value.builtin "str.join") _) _ _ _))); (first | walk1 | (dsimp only; walk1) | (leave1; try dsimp only))) | fail "no step")
    refine join_listW (items := List.toArray ys1) ⟨_, (N2 _ (.head _)).1, rfl, _, rfl⟩ ss1 (by decide) (by rw [ones_sum, List.length_map]; omega) (fun tj kj => ?_)
    clear ss1
    try dsimp only
    repeat' (first | (k_unfold; (try dsimp only)) | ((fail_if_success (first | (with_reducible show wpAny _ _ (call (Value.builtin "str.join") _) _ _ _))); (first | walk1 | (dsimp only; walk1) | (leave1; try dsimp only))) | fail "no step")
    refine tails_spec KX T (Over.ofFr F2) (Nat.lt_of_le_of_lt (cA_depth _) (by decide)) ?_
    intro a5 ys5 n5 h5 tk5 k5 e5 e5' st5
    have F5 := F2.keeps k5
    have N5 := news_add F2 (N2.grown k5) e5 e5'
    clear F2 N2 e5 e5'
    generalize hT : Txt.join (Str.ofString "") (List.map (fun x => pick "????????=(/)'<!>-#\na" (x.fmod 20)) ns) = t1
    have ht1 : t1.length = ns.length := hT ▸ joined_size (S := "????????=(/)'<!>-#\na") (q := fun x => x.fmod 20)
    have hc1 : AllC low t1 := hT ▸ joined_all (p := low) (S := "????????=(/)'<!>-#\na") (q := fun x => x.fmod 20) rfl (AllC.of (by decide +kernel))
    try dsimp only
    repeat' (first | (k_unfold; (try dsimp only)) | ((fail_if_success (first | (with_reducible show wpAny _ _ (subscriptTail _ _ (Value.ref _) _) _ _ _))); (first | walk1 | (dsimp only; walk1) | (leave1; try dsimp only))) | fail "no step")
    have hk6 := fmod_lt ns.sum (b := 6) (by decide)
    obtain ⟨t6, ht6⟩ := st5.get _ _ (tailAt_at hk6)
    refine item_here ⟨_, (N5 _ (.head _)).1, rfl, _, rfl⟩ ⟨hk6.1, by omega⟩ ht6 (by with_unfolding_all rfl) ?_
    have ts6 := tailAt_small (k := ns.sum.fmod 6)
    have lt6 := ts6.1
    have lt1 : t1.length ≤ 16 := by omega
    k_steps
    (rename Fr s₁.heap L _ _ => F6); (rename News s₁.heap L _ _ => N6)
    generalize hX : t1 ++ tailAt (ns.sum.fmod 6) = text at F6 ⊢
    have htx : text.cps.size ≤ 22 := by
      have e : text.length = t1.length + (tailAt (ns.sum.fmod 6)).length := hX ▸ Str.length_append ..
      show text.length ≤ 22
      omega
    have hcx : AllC low text := hX ▸ hc1.append ts6.2
    clear hX hT ht6 ts6 lt6 hc1 ht1 lt1
    have r1 := N6 (nums, _) (by k_mem)
    have r2 := N6 (L + 1, _) (by k_mem)
    refine due_spec KX T (Over.ofFr F6) rfl (cA_depth _) (cA_units _) r1.2.2 r1.1 hi hfit (Nat.le_trans htx (by decide)) ?_
    intro aD h7 tk7 k7 nD lD
    rw [due_eq] at lD
    try dsimp only at k7 nD
    have F7 := F6.keeps k7
    have DL : aD ≠ L := by
      rintro rfl
      obtain ⟨oL, _, _, eL, _⟩ := F6.ns
      have eL' : Heap.get? _ aD = some oL := eL
      rw [nD] at eL'; cases eL'
    have O7 := Over.ofFr F7
    obtain ⟨own7, hro7⟩ : ∃ own7, own7 = rest s₁.heap L [] h7 := ⟨_, rfl⟩
    have N7 : News s₁.heap L h7 ((nums, listOf (List.toArray vs) 0) :: (L + 1, on) :: own7) := by
      intro p hp
      rcases List.mem_cons.mp hp with rfl | hp
      · exact ⟨k7 _ _ r1.1, r1.2⟩
      rcases List.mem_cons.mp hp with rfl | hp
      · exact ⟨k7 _ _ r2.1, r2.2⟩
      exact rest_news p (hro7 ▸ hp)
    have M7 : ∀ p ∈ ((nums, listOf (List.toArray vs) 0) :: (L + 1, on) :: own7), h7.get? p.1 = some p.2 ∧ p.1 ≠ L ∧ s₁.heap.get? p.1 = none := N7
    have F7' : Nonempty (Fr s₁.heap L h7 _) := ⟨F7⟩
    clear F6 N6
    try k_unmd
    try k_unfold
    try dsimp only
    k_steps
    (rename Fr s₁.heap L _ _ => F8); (rename News s₁.heap L _ _ => N8)
    have kb8 : KeepBut [L] h7 _ := rest_keep O7 F8 N8 fun p hp => .tail _ (.tail _ (hro7 ▸ hp))
    have r1 := N8 (nums, _) (by k_mem)
    have r2 := N8 (L + 1, _) (by k_mem)
    refine chars_spec KX T (Over.ofFr F8) rfl (cA_depth _) (cA_units _) r1.2.2 r1.1 hi hfit (Nat.le_trans htx (by decide)) ?_
    intro aC cs h9 tk9 k9 nC eC lC hC
    try dsimp only at k9 nC hC
    have F9 := F8.keeps k9
    have N9 := news_add F8 (N8.grown k9) nC eC
    have kb9 := kb8.trans (.ofKeep k9)
    have nb8 := fun b e => (none_of_fr (b := b) F8 e).1
    clear F8 N8 r1 r2
    try k_unmd
    try k_unfold
    try dsimp only
    repeat' (first | (k_unfold; (try dsimp only)) | ((fail_if_success (first | (with_reducible show wpAny _ _ (call (Value.builtin "iter") _) _ _ _))); (first | walk1 | (dsimp only; walk1) | (leave1; try dsimp only))) | fail "no step")
    refine iter_list eC (fun It h10 k10 nI eI hI => ?_)
    try dsimp only at k10 nI
    have F10 := F9.keeps k10
    have N10 := N9.grown k10
    have kb10 := kb9.trans (.ofKeep k10)
    have hnI := none_of_fr F9 nI
    have hnC := (N9 _ (.head _)).2
    have nI7 := none_of_kb kb9 hnI.2 nI
    clear F9 N9
    try dsimp only
    k_steps
    (rename Fr s₁.heap L _ _ => F10'); (rename News s₁.heap L _ _ => N10')
    refine filter_spec (cs := cs) (sgs := sgsOf text ns) (cl := aC) KX T (Over.ofFr F10') rfl (cA_depth _) (cA_units _) hnI.1 hnC.2 hI ⟨_, k10 _ _ eC, rfl, _, rfl⟩ (by rw [sgsOf_len, lC]) (by rw [sgsOf_len]; exact Nat.le_trans htx (by decide)) (chars_in hC k10 nb8) ?_
    intro aG Lg gs0 h11 tk11 k11 nG nLg hG hLg hb0 hF
    have F11 := F10'.keeps k11
    have N11 := N10'.grown k11
    have kb11 := kb10.trans (.ofKeep k11)
    have hnG := none_of_fr F10' nG
    have hnLg := none_of_fr F10' nLg
    have nLg7 := none_of_kb kb10 hnLg.2 nLg
    clear F10' N10'
    try dsimp only at hF hG
    try k_unmd
    try k_unfold
    try dsimp only
    repeat' (first | (k_unfold; (try dsimp only)) | ((fail_if_success (first | (with_reducible show wpAny _ _ (call (Value.type "list") _) _ _ _))); (first | walk1 | (dsimp only; walk1) | (leave1; try dsimp only))) | fail "no step")
    have fresh11 : h11.get? h11.objs.size = none := Heap.get?_none_of_le (Nat.le_refl _)
    have hnL := none_of_fr F11 fresh11
    have nL7 := none_of_kb kb11 hnL.2 fresh11
    refine list_gen (base := s₁.heap) (wr := [Lg, It]) (sgs := run [] (sgsOf text ns)) (g := s₁.gens.size) rfl (Nat.le_trans (cA_depth _) (by decide)) (Nat.le_trans (cA_units _) (by decide)) hF hG ?hwr ?hfit ?_
    case hwr =>
      intro b hb
      rcases List.mem_cons.mp hb with rfl | hb
      · exact hLg
      · rw [List.mem_singleton.mp hb]
        obtain ⟨o, e⟩ := eI
        exact ⟨o, k11 _ _ e⟩
    case hfit => exact Nat.le_trans (run_len _) (by rw [sgsOf_len]; exact Nat.le_trans htx (by decide))
    intro gs2 c12 s12 keep12 bare12 d12 o12 e12 l12 ch12
    obtain ⟨h12, g12, dr12, tk12, os12⟩ := s12
    dsimp only at keep12 bare12 d12 o12 e12 l12 ch12 ⊢
    subst d12 o12
    generalize h11.objs.size = aL at fresh11 hnL nL7 e12 ⊢
    have F12 := fr_but F11 keep12 (by simp only [List.mem_cons, List.not_mem_nil, or_false, not_or]; exact ⟨Ne.symm hnLg.2, Ne.symm hnI.2⟩) (by
      intro b hb
      rcases List.mem_cons.mp hb with rfl | hb
      · exact hnLg.1
      · rw [List.mem_singleton.mp hb]; exact hnI.1)
    have kb12 : KeepBut [L] h7 h12 := kb_newer kb11 keep12 (by
      intro b hb _
      rcases List.mem_cons.mp hb with rfl | hb
      · exact nLg7
      · rw [List.mem_singleton.mp hb]; exact nI7)
    have bare12' : AllBare g12 := bare12 (by
      intro y hy
      rw [hg] at hy
      rcases Array.mem_push.mp hy with hy | rfl
      · simp at hy
      · exact hb0)
    have lD12 := lD.kept (Classical.choice F7') kb12 DL
    have ch12' : ∀ (j : Nat) c g, gs2[j]? = some c → (run [] (sgsOf text ns))[j]? = some g → CharP (fun b => s₁.heap.get? b = none ∧ b ≠ L) h12 c g := fun j c g h1 h2 => (ch12 j c g h1 h2).notL F12 rfl rfl
    have M12 : ∀ p ∈ _, _ := news_butL (M7 : News s₁.heap L h7 _) kb12
    have r1 := M12 (nums, _) (by k_mem)
    have r2 := M12 (L + 1, _) (by k_mem)
    obtain ⟨own12, hro12⟩ : ∃ own12, own12 = rest s₁.heap L [] h12 := ⟨_, rfl⟩
    have N12 : News s₁.heap L h12 ((aL, lsO (List.map Value.ref gs2).toArray c12) :: (nums, listOf (List.toArray vs) 0) :: (L + 1, on) :: own12) := by
      intro p hp
      rcases List.mem_cons.mp hp with rfl | hp
      · exact ⟨e12, hnL.2, hnL.1⟩
      rcases List.mem_cons.mp hp with rfl | hp
      · exact r1
      rcases List.mem_cons.mp hp with rfl | hp
      · exact r2
      exact rest_news p (hro12 ▸ hp)
    have O12 := Over.ofFr F12
    have F12' := Nonempty.intro F12
    clear M7 M12 F11 N11 hF hG keep12 ch12 F7' lD kb12 kb11 kb10 kb9 kb8 hC O7
    k_steps
    (rename Fr s₁.heap L _ _ => F13); (rename News s₁.heap L _ _ => N13)
    have kb13 : KeepBut [L] h12 _ := rest_keep O12 F13 N13 fun p hp => .tail _ (.tail _ (.tail _ (hro12 ▸ hp)))
    have lD13 := lD12.kept (Classical.choice F12') kb13 DL
    have kL13 : ∀ b o, b ≠ L → h12.get? b = some o → Heap.get? _ b = some o := fun b o hb e => kb13 b o (fun q => hb (List.mem_singleton.mp q)) e
    have ch13 : ∀ (j : Nat) c g, gs2[j]? = some c → (run [] (sgsOf text ns))[j]? = some g → CharP (fun b => s₁.heap.get? b = none ∧ b ≠ L) _ c g := fun j c g h1 h2 => (ch12' j c g h1 h2).keep fun b o p _ e => kL13 b o p.2 e
    have sok := run_ok (sgs_ok hcx (ns := ns))
    have rl : (run [] (sgsOf text ns)).length ≤ 100 := Nat.le_trans (run_len _) (by rw [sgsOf_len]; exact Nat.le_trans htx (by decide))
    refine told_spec (base := s₁.heap) (gs := true) (wr0 := []) (sgs := run [] (sgsOf text ns)) KX T (Over.ofFr F13) rfl (cA_depth _) (cA_units _) rl (by simp) (fun env => list_src rfl (N13 _ (.head _)).1 l12 fun j c g h1 h2 => (ch13 j c g h1 h2).mono fun b o _ p => p.1) ?_
    intro aT ysT s14 nT eT lT tT kT gT bT dT oT
    obtain ⟨h14, g14, dr14, tk14, os14⟩ := s14
    have gT' := gT rfl
    dsimp only at nT eT tT kT gT' dT oT ⊢
    subst gT' dT oT
    have kT' := KeepBut.keep kT
    have F14 := F13.keeps kT'
    have N14 := N13.grown kT'
    have lD14 : ListAt h14 aD _ := lD13.keep (fun b o _ e => kT' b o e) (kT' _)
    have lT14 : ListAt h14 aT (run [] (sgsOf text ns)) := ⟨ysT, _, eT, lT, tT⟩
    have kb14 := kb13.trans (.ofKeep kT')
    clear F13 N13 gT bT lD13 ch13 kL13
    try k_unmd
    try k_unfold
    try dsimp only
    repeat' (first | (k_unfold; (try dsimp only)) | ((fail_if_success (first | (with_reducible show wpAny _ _ (compareOp CmpOp.NotEq _ _) _ _ _))); (first | walk1 | (dsimp only; walk1) | (leave1; try dsimp only))) | fail "no step")
    refine told_ne lT14 lD14 sok (Nat.lt_of_le_of_lt (Nat.add_le_add_right (cA_units _) 64) (by decide)) ?_
    clear lT14 lD14 tT
    try dsimp only
    repeat' (first | (k_unfold; (try dsimp only)) | ((fail_if_success (first | (with_reducible show wpAny _ _ (call (Value.builtin "iter") _) _ _ _))); (first | walk1 | (dsimp only; walk1) | (leave1; try dsimp only))) | fail "no step")
    (rename Fr s₁.heap L _ _ => F15); (rename News s₁.heap L _ _ => N15)
    have kL14 : ∀ b o, b ≠ L → h12.get? b = some o → Heap.get? _ b = some o := fun b o hb e => kb14 b o (fun q => hb (List.mem_singleton.mp q)) e
    have ch14 : ∀ (j : Nat) c g, gs2[j]? = some c → (run [] (sgsOf text ns))[j]? = some g → CharP (fun b => s₁.heap.get? b = none ∧ b ≠ L) h14 c g := fun j c g h1 h2 => (ch12' j c g h1 h2).keep fun b o p _ e => kL14 b o p.2 e
    refine iter_list (N15 _ (.head _)).1 (fun It2 h16 k16 nI2 eI2 hI2 => ?_)
    try dsimp only at k16 nI2
    have F16 := F15.keeps k16
    have N16 := N15.grown k16
    have kb16 := kb14.trans (.ofKeep k16)
    have hnI2 := none_of_fr F15 nI2
    have nI212 := none_of_kb kb14 hnI2.2 nI2
    clear F15 N15 kL14
    try dsimp only
    k_steps
    (rename Fr s₁.heap L _ _ => F16'); (rename News s₁.heap L _ _ => N16')
    refine filter_spec (cs := gs2) (sgs := run [] (sgsOf text ns)) (cl := aL) KX T (Over.ofFr F16') rfl (cA_depth _) (cA_units _) hnI2.1 hnL.1 hI2 ⟨_, (N16' _ (.head _)).1, rfl, _, rfl⟩ l12 rl (fun j c g h1 h2 => ((ch14 j c g h1 h2).keep fun b o _ _ e => k16 b o e).mono fun b o _ p => p.1) ?_
    intro aG2 Lg2 gs1 h17 tk17 k17 nG2 nLg2 hG2 hLg2 hb2 hF2
    rw [run_idem] at hF2
    have F17 := F16'.keeps k17
    have N17 := N16'.grown k17
    have kb17 := kb16.trans (.ofKeep k17)
    have hnLg2 := none_of_fr F16' nLg2
    have nLg212 := none_of_kb kb16 hnLg2.2 nLg2
    have hwr2 : ∀ b ∈ [Lg2, It2], ∃ o, h17.get? b = some o := by
      intro b hb
      rcases List.mem_cons.mp hb with rfl | hb
      · exact hLg2
      · rw [List.mem_singleton.mp hb]
        obtain ⟨o, e⟩ := eI2
        exact ⟨o, k17 _ _ e⟩
    have hwn2 : ∀ b ∈ [Lg2, It2], s₁.heap.get? b = none := by
      intro b hb
      rcases List.mem_cons.mp hb with rfl | hb
      · exact hnLg2.1
      · rw [List.mem_singleton.mp hb]; exact hnI2.1
    clear F16' N16' ch14
    try dsimp only at hF2 hG2
    try k_unmd
    try k_unfold
    try dsimp only
    k_steps
    (rename Fr s₁.heap L _ _ => F17'); (rename News s₁.heap L _ _ => N17')
    refine told_spec (base := s₁.heap) (gs := false) (wr0 := [Lg2, It2]) (sgs := run [] (sgsOf text ns)) KX T (Over.ofFr F17') rfl (cA_depth _) (cA_units _) rl (fun b hb => ⟨let ⟨o, e⟩ := hwr2 b hb; Heap.lt_size e, hwn2 b hb⟩) (fun env => (hF2.later (fun _ _ e => e) rfl).src hG2 hwr2 rfl (cA_depth2 _ _) (cA_units2 _ _)) ?_
    intro aT2 ysT2 s18 nT2 eT2 lT2 tT2 kT2 gT2 bT2 dT2 oT2
    obtain ⟨h18, g18, dr18, tk18, os18⟩ := s18
    dsimp only at nT2 eT2 tT2 kT2 bT2 dT2 oT2 ⊢
    subst dT2 oT2
    have bare18 : AllBare g18 := bT2 (by
      intro y hy
      rcases Array.mem_push.mp hy with hy | rfl
      · exact bare12' y hy
      · exact hb2)
    have F18 := fr_but F17' kT2 (by simp only [List.mem_cons, List.not_mem_nil, or_false, not_or]; exact ⟨Ne.symm hnLg2.2, Ne.symm hnI2.2⟩) hwn2
    have kb18 : KeepBut [L] h12 h18 := kb_newer kb17 kT2 (by
      intro b hb _
      rcases List.mem_cons.mp hb with rfl | hb
      · exact nLg212
      · rw [List.mem_singleton.mp hb]; exact nI212)
    have lD18 := lD12.kept (Classical.choice F12') kb18 DL
    have kL18 : ∀ b o, b ≠ L → h12.get? b = some o → h18.get? b = some o := fun b o hb e => kb18 b o (fun q => hb (List.mem_singleton.mp q)) e
    have N18 : News s₁.heap L h18 [(nums, listOf (List.toArray vs) 0), (L + 1, on)] := by
      intro p hp
      rcases List.mem_cons.mp hp with rfl | hp
      · exact ⟨kL18 _ _ r1.2.1 r1.1, r1.2⟩
      rw [List.mem_singleton.mp hp]
      exact ⟨kL18 _ _ r2.2.1 r2.1, r2.2⟩
    have lT18 : ListAt h18 aT2 (run [] (sgsOf text ns)) := ⟨ysT2, _, eT2, lT2, tT2⟩
    clear F17' N17' kL18 gT2 bT2
    repeat' (first | (k_unfold; (try dsimp only)) | ((fail_if_success (first | (with_reducible show wpAny _ _ (compareOp CmpOp.NotEq _ _) _ _ _))); (first | walk1 | (dsimp only; walk1) | (leave1; try dsimp only))) | fail "no step")
    refine told_ne lT18 lD18 sok (Nat.lt_of_le_of_lt (Nat.add_le_add_right (cA_units _) 64) (by decide)) ?_
    clear lT18 lD18 tT2 hF2 kT2 kb18 kb17 kb16 kb14 kb13 lD12 ch12' r1 r2 O12 F12'
    try dsimp only
    repeat' (first | (k_unfold; (try dsimp only)) | ((fail_if_success (with_reducible show wpAny _ _ (binaryOp _ (Value.str _ _) (Value.int _ _)) _ _ _)); (first | walk1 | (dsimp only; walk1) | (leave1; try dsimp only))) | fail "no step")
    obtain ⟨q, hq, hq4⟩ : ∃ q : Nat, (ns.sum.fdiv 6).fmod 4 = (q : Int) ∧ q < 4 := by
      have := fmod_lt (ns.sum.fdiv 6) (b := 4) (by decide)
      exact ⟨((ns.sum.fdiv 6).fmod 4).toNat, by omega, by omega⟩
    rw [hq]
    try dsimp only
    repeat' (first | (k_unfold; (try dsimp only)) | ((fail_if_success (first | (with_reducible show wpAny _ _ (execs (Stmt.Assign _ (Expr.ListComp _ _ _ _) _ :: _) _) _ _ _))); (first | walk1 | (dsimp only; walk1) | (leave1; try dsimp only))) | fail "no step")
    generalize hsp : Txt.mul (Str.ofString "?") (q : Int) = sp0 at *
    have hmq := mulq hq4
    rw [hsp] at hmq
    obtain ⟨lsp, lowsp, csp⟩ := hmq
    have lsp3 : sp0.length ≤ 3 := by omega
    refine wpAny_execs_cons ?_
    refine assign_comp_range (by rfl) rfl (by decide) rfl (by decide) rfl rfl rfl ?_
    repeat' (first | (k_unfold; (try dsimp only)) | ((fail_if_success (with_reducible show Exists _)); (first | walk1 | (dsimp only; walk1) | (leave1; try dsimp only))) | fail "no step")
    (rename IsRange _ _ _ _ _ _ _ _ => hrg); (rename Fr s₁.heap L _ _ => F20); (rename News s₁.heap L _ _ => N20)
    refine ⟨s₁.heap, _, _, sp0.length, fun i y h => ∃ g, (sgsOf sp0 ns)[i]? = some g ∧ TupAt h y g, rfl, ⟨rfl, F20, ⟨_, _, _, hrg⟩, by omega, fun i y h h' kf ⟨g, e, t⟩ => ⟨g, e, t.firm kf⟩, ?elm⟩, ?fin⟩
    case elm =>
      rintro i v C s₃ m₃ oC hii ⟨ti, rfl⟩ hC eC hoC hm F3 low3 hCL hCb
      have q1 := N20 _ (.head _)
      have q2 := N20 _ (.tail _ (.head _))
      have N3 : News s₁.heap L s₃.heap ((C, oC) :: (nums, listOf (List.toArray vs) 0) :: (L + 1, on) :: rest s₁.heap L [] s₃.heap) := by
        intro p hp
        rcases List.mem_cons.mp hp with rfl | hp
        · exact ⟨eC, hCL, hCb⟩
        rcases List.mem_cons.mp hp with rfl | hp
        · exact ⟨low3 _ _ q1.2.1 q1.1, q1.2⟩
        rcases List.mem_cons.mp hp with rfl | hp
        · exact ⟨low3 _ _ q2.2.1 q2.1, q2.2⟩
        exact rest_news p hp
      have O3 := Over.ofFr F3
      obtain ⟨own3, hro3⟩ : ∃ own3, own3 = rest s₁.heap L [] s₃.heap := ⟨_, rfl⟩
      rw [← hro3] at N3
      have fin := fun h' (tk : Nat) (y : Value) (F9 : Fr s₁.heap L h' _) (nw : List (Addr × Obj)) (N9 : News s₁.heap L h' nw) (hs : ∀ p ∈ own3, p ∈ nw) (z : ∃ g, (sgsOf sp0 ns)[i]? = some g ∧ TupAt h' y g) => ElmEnd.mk' (El := fun y h => ∃ g, (sgsOf sp0 ns)[i]? = some g ∧ TupAt h y g) (tk := tk) F3 F9 (rest_keep O3 F9 N9 (fun p hp => hs p (hro3 ▸ hp))) z
      clear F20 N20
      k_steps
      (rename Fr s₁.heap L _ _ => F4); (rename News s₁.heap L _ _ => N4)
      have q3 := N4 (nums, _) (by k_mem)
      refine place_spec (i := i) KX T (Over.ofFr F4) (Nat.lt_of_le_of_lt (cA_depth _) (by decide)) q3.2.2 q3.1 hi hfit (by omega) (by omega) ?_
      intro tup t1 t2 t3 h4 tk4 k4 e4 e5
      have F5 := F4.keeps k4
      have N5 := news_add F4 (N4.grown k4) e4 e5
      clear F4 N4
      try k_unmd
      try k_unfold
      try dsimp only
      k_steps
      try k_unmd
      try k_unfold
      try dsimp only
      (rename Fr s₁.heap L _ _ => F9); (rename News s₁.heap L _ _ => N9)
      have e9 := (N9 _ (.head _)).1
      have z9 : (sgsOf sp0 ns)[i]? = some ⟨qm, fileF ns i, rowF ns i, colF ns i⟩ := by rw [sgsOf_get hii, csp i (lsp ▸ hii)]
      exact fin _ _ _ F9 _ N9 (fun p hp => .tail _ (.tail _ (.tail _ (.tail _ (.tail _ (.tail _ hp)))))) ⟨_, z9, _, _, _, _, _, rfl, e9⟩
    case fin =>
      intro D2 ys2 h21 tk21 c21
      try dsimp only
      have F21 := c21.fr
      have low21 := fun b o (hb : b ≠ L) => c21.low b o (fun q => hb (List.mem_singleton.mp q))
      have q1 := N20 _ (.head _)
      have q2 := N20 _ (.tail _ (.head _))
      have lE : ListAt h21 D2 (sgsOf sp0 ns) := ⟨ys2, _, c21.at', by rw [c21.len, sgsOf_len]; rfl, fun j y g hy hg => by
        obtain ⟨g', e, t⟩ := c21.el j y hy
        rw [hg] at e; cases e
        exact t⟩
      obtain ⟨own21, hro21⟩ : ∃ own21, own21 = rest s₁.heap L [] h21 := ⟨_, rfl⟩
      have N21 : News s₁.heap L h21 ((D2, lstO ys2) :: (nums, listOf (List.toArray vs) 0) :: (L + 1, on) :: own21) := by
        intro p hp
        rcases List.mem_cons.mp hp with rfl | hp
        · exact ⟨c21.at', c21.ne, c21.nb⟩
        rcases List.mem_cons.mp hp with rfl | hp
        · exact ⟨low21 _ _ q1.2.1 q1.1, q1.2⟩
        rcases List.mem_cons.mp hp with rfl | hp
        · exact ⟨low21 _ _ q2.2.1 q2.1, q2.2⟩
        exact rest_news p (hro21 ▸ hp)
      have O21 := Over.ofFr F21
      have F21' := Nonempty.intro F21
      have nN : nums ≠ D2 := fun q => by
        have e := c21.new
        have e2 := q1.1
        rw [← q] at e
        dsimp only at e e2
        rw [e2] at e; cases e
      have nC3 : L + 1 ≠ D2 := fun q => by
        have e := c21.new
        have e2 := q2.1
        rw [← q] at e
        dsimp only at e e2
        rw [e2] at e; cases e
      have D2L := c21.ne
      have D2b := c21.nb
      clear low21 F20 N20 hrg c21 q1 q2
      repeat' (first | (k_unfold; (try dsimp only)) | ((fail_if_success (first | (with_reducible show wpAny _ _ (execs (Stmt.For (Expr.Name _ _) (Expr.Name _ _) _ _ _ :: _) _) _ _ _))); (first | walk1 | (dsimp only; walk1) | (leave1; try dsimp only))) | fail "no step")
      refine wpAny_execs_cons ?_
      refine wpAny_For ?_
      repeat' (first | (k_unfold; (try dsimp only)) | ((fail_if_success (first | (with_reducible show wpAny _ _ (pyIter _) _ _ _))); (first | walk1 | (dsimp only; walk1) | (leave1; try dsimp only))) | fail "no step")
      (rename Fr s₁.heap L _ _ => F23); (rename News s₁.heap L _ _ => N23)
      rename_i dK hz oK Fz Nz loK isK fsK isI fiK ltK h23
      have kb23 : KeepBut [L] h21 h23 := rest_keep O21 F23 N23 fun p hp => .tail _ (.tail _ (.tail _ (.tail _ (hro21 ▸ hp))))
      have pK := N23 _ (.head _)
      have p1 := N23 (nums, _) (by k_mem)
      have p2 := N23 (L + 1, _) (by k_mem)
      have dK21 : h21.get? dK = none := by
        cases q : h21.get? dK with
        | none => rfl
        | some o => exact absurd (tb_ltOf ltK.2.2.2 _ (hro21 ▸ mem_rest pK.2.1 (by simp) pK.2.2 q)) (Nat.lt_irrefl _)
      have lE23 : ListAt h23 D2 (sgsOf sp0 ns) := lE.kept (Classical.choice F21') kb23 D2L
      clear lE kb23 Nz Fz fsK isI fiK
      obtain ⟨lo91, kvs91, hdo91, hf91⟩ := swaps_tab (KX.keeps F23.keep)
      obtain ⟨ep91, hat91⟩ := hdo91.dictAt
      have len91 : kvs91.length = 9 := hf91.length.symm
      have hL23 := F23.ns.lt
      refine wpAny_pyIter_dict lo91 hat91 ?_
      obtain ⟨m23, hm23, F23'⟩ : ∃ m23, m23 = _ ∧ Fr s₁.heap L h23 m23 := ⟨_, rfl, F23⟩
      clear F23
      refine for_iter (cw := [dK]) (N0 := h23.objs.size + 1) (Iter.ofWalks (Walks.dictKeys (knd := PySem.strKind PySem.Challenge.rw_rk0003_01.row.prog w) (by exact rfl) h23.objs.size 91 (Nat.ne_of_lt hat91.lt_size) kvs91 ep91) _ _ ?hcw ?hsol) rfl rfl rfl ?hLw ?hLN ?hwr ?hst (F23'.push _) (keyJ PySem.Challenge.rw_rk0003_01.row.prog w L dK h23 m23) ?h0 ?hJ ?step ?hR
      case hcw =>
        intro b hb
        simp only [List.mem_cons, List.not_mem_nil, or_false, not_or]
        rcases List.mem_cons.mp hb with rfl | hb
        · exact ⟨Nat.ne_of_gt hL23, Nat.ne_of_gt (Heap.lt_size pK.1)⟩
        · rw [List.mem_singleton.mp hb]
          obtain ⟨o91, e91⟩ := swaps_in KX
          refine ⟨fun q => ?_, fun q => ?_⟩
          · have lt := Heap.lt_size e91
            rw [q] at lt
            exact absurd (Nat.lt_of_lt_of_le lt F23'.above) (Nat.lt_irrefl _)
          · have := pK.2.2
            rw [← q, e91] at this; cases this
      case hsol =>
        rintro i h ⟨⟨o', e', c', _⟩, _⟩ b hb o e
        rw [List.mem_singleton.mp hb, e'] at e; cases e
        rintro (⟨a, q⟩ | q | q) <;> (rw [c'] at q; exact absurd q (by simp))
      case hLw => exact fun hm => Nat.ne_of_lt hL23 (List.mem_singleton.mp hm)
      case hLN => exact Nat.lt_succ_of_lt hL23
      case hwr => intro b hb; rw [List.mem_singleton.mp hb]; exact next_is_new F23'
      case hst => exact ⟨⟨_, Heap.get?_push_size _ rfl, rfl, rfl⟩, hat91.push _⟩
      case h0 => exact ⟨_, reM (stored := [Str.ofString "key"]) (fun y hy => rfl), ⟨oK, [], Heap.get?_push_of_some _ pK.1, isK, .nil⟩, fun b o _ _ e => Heap.get?_push_of_some _ e⟩
      case hJ =>
        rintro i m h h' ⟨mm, hns⟩ kh ⟨u, rfl, ⟨o, kv, e1, e2, e3⟩, k⟩
        refine ⟨u, rfl, ⟨o, kv, kh dK o pK.2.1 (.inl ⟨rfl, .inr fun q => ?_⟩) e1, e2, e3⟩, fun b o hb hd e => kh b o hb (.inl ⟨rfl, .inr fun q => ?_⟩) (k b o hb hd e)⟩
        · exact absurd (Heap.lt_size pK.1) (by rw [List.mem_singleton.mp q]; exact Nat.lt_irrefl _)
        · exact absurd (Heap.lt_size e) (by rw [List.mem_singleton.mp q]; exact Nat.lt_irrefl _)
      case step =>
        rintro i v m₁ s₂ hit ⟨k, x, hx, hk⟩ hstI ⟨u, rfl, hK, hkeep⟩ F24
        obtain ⟨dv, hD, _⟩ := hf91.at hx
        obtain ⟨d, hSW, sw⟩ := swaps_key hD
        obtain ⟨tk9, rfl⟩ := Value.isStrOf_shape hk
        obtain ⟨oK2, kv, e1, e2, e3⟩ := hK
        have O24 := Over.ofFr F24
        obtain ⟨own24, hro24⟩ : ∃ own24, own24 = rest s₁.heap L [dK] s₂.heap := ⟨_, rfl⟩
        have N24 : News s₁.heap L s₂.heap ((dK, oK2) :: own24) := by
          intro p hp
          rcases List.mem_cons.mp hp with rfl | hp
          · exact ⟨e1, pK.2⟩
          exact rest_news p (hro24 ▸ hp)
        clear N23
        subst hm23
        repeat' (first | (k_unfold; (try dsimp only)) | ((fail_if_success (first | (with_reducible show wpAny _ _ (subscriptTail _ _ (Value.ref _) _) _ _ _) | (with_reducible show wpAny _ _ (setItem _ _ _) _ _ _))); (first | walk1 | (dsimp only; walk1) | (leave1; try dsimp only))) | fail "no step")
        refine item_swaps ((swaps_at KX).keep F24.keep) sw (fun td => ?_)
        try dsimp only
        repeat' (first | (k_unfold; (try dsimp only)) | ((fail_if_success (first | (with_reducible show wpAny _ _ (setItem _ _ _) _ _ _))); (first | walk1 | (dsimp only; walk1) | (leave1; try dsimp only))) | fail "no step")
        (rename Fr s₁.heap L _ _ => F25); (rename News s₁.heap L _ _ => N25)
        have kb25 : KeepBut [L, dK] s₂.heap _ := rest_keep O24 F25 N25 fun p hp => .tail _ (hro24 ▸ hp)
        have kvl := e3.length
        have kvl2 : (WS.take i).length ≤ 9 := by rw [List.length_take]; exact Nat.min_le_right ..
        refine wpAny_setItem_pairs (knd := PySem.strKind PySem.Challenge.rw_rk0003_01.row.prog w) (k := d) (kvs := kv) (by with_unfolding_all simp [PySem.strKind, Value.isStrOf]) (Heap.dictOf_iff.mpr ⟨oK2, (N25 _ (.head _)).1, e2⟩) (fun h26 hd26 hs26 => ?_) (by rw [kvl]; exact Nat.le_trans kvl2 (by decide))
        have F26 := F25.change hs26 pK.2.1 pK.2.2
        have kb26 : KeepBut [L, dK] s₂.heap h26 := fun b o hb e => (hs26.2 b (fun q => hb (by rw [q]; simp))).trans (kb25 b o hb e)
        clear F25 N25
        try dsimp only
        k_steps
        exact TurnEnd.mk' kb26 F26 ⟨_, reM (stored := [Str.ofString "key"]) (fun y hy => by
          exact (if_neg (by rintro rfl; simp at hy)).trans (if_neg (by rw [hy]; decide))), KeysAt.step (by omega) e3 hSW hd26, fun b o hb hd e => kb26 b o (by simp [hb, hd]) (hkeep b o hb hd e)⟩
      case hR =>
        rintro s' m' F27 ⟨u, rfl, hK, hkeep⟩ hg' hb' hd' ho'
        have eWS : WS.take kvs91.length = WS := by rw [len91]; rfl
        rw [eWS] at hK
        have nK := Nat.ne_of_lt ltK.1
        have nK1 := Nat.ne_of_lt ltK.2.1
        have nK2 := Nat.ne_of_lt ltK.2.2.1
        have lE27 : ListAt s'.heap D2 (sgsOf sp0 ns) := lE23.keep (fun b o so e => hkeep b o (fun q => ?_) (fun q => ?_) e) (fun o e => hkeep D2 o D2L nK e)
        rotate_left
        · rw [q] at e
          obtain ⟨oL, es, ep, eL, dL, _⟩ := F23'.ns
          replace eL : h23.get? L = some oL := eL
          rw [eL] at e; cases e
          obtain ⟨its, k, dq⟩ := so.2
          rw [dL] at dq; cases dq
        · rw [q, pK.1] at e; cases e
          obtain ⟨es, ep, cx, _⟩ := isK
          exact absurd (cx.1.symm.trans so.1) (by simp)
        obtain ⟨oK3, kv3, g1, g2, g3⟩ := hK
        obtain ⟨h27, g27, dr27, tk27, os27⟩ := s'
        have hg2 := hg' rfl
        dsimp only at hg2 hd' ho' g1 lE27 hkeep ⊢
        subst hg2 hd' ho'
        subst hm23
        obtain ⟨own27, hro27⟩ : ∃ own27, own27 = rest s₁.heap L [] h27 := ⟨_, rfl⟩
        have O27 := Over.ofFr F27
        have F27' := Nonempty.intro F27
        have N27 : News s₁.heap L h27 ((dK, oK3) :: (nums, listOf (List.toArray vs) 0) :: (L + 1, on) :: own27) := by
          intro p hp
          rcases List.mem_cons.mp hp with rfl | hp
          · exact ⟨g1, pK.2⟩
          rcases List.mem_cons.mp hp with rfl | hp
          · exact ⟨hkeep _ _ p1.2.1 nK1 p1.1, p1.2⟩
          rcases List.mem_cons.mp hp with rfl | hp
          · exact ⟨hkeep _ _ p2.2.1 nK2 p2.1, p2.2⟩
          exact rest_news p (hro27 ▸ hp)
        clear hkeep lE23 N23 F23'
        refine wpAny_execs_cons ?_
        refine wpAny_For ?_
        repeat' (first | (k_unfold; (try dsimp only)) | ((fail_if_success (first | (with_reducible show wpAny _ _ (eval (Expr.ListComp _ _ _ _) _) _ _ _))); (first | walk1 | (dsimp only; walk1) | (leave1; try dsimp only))) | fail "no step")
        refine eval_comp_list (cl := []) rfl (by decide) rfl (by decide) rfl ?_
        repeat' (first | (k_unfold; (try dsimp only)) | ((fail_if_success (with_reducible show Exists _)); (first | walk1 | (dsimp only; walk1) | (leave1; try dsimp only))) | fail "no step")
        (rename Fr s₁.heap _ _ _ => F28); (rename News s₁.heap _ _ _ => N28)
        rename_i D12 ws12 h28 hi12 hc12 hle12 lt12
        have hws := hi12.length
        have kb28 : KeepBut [L] h27 h28 := rest_keep O27 F28 N28 fun p hp => .tail _ (.tail _ (.tail _ (.tail _ (hro27 ▸ hp))))
        have r12 := N28 _ (.head _)
        have w1 := N28 (dK, _) (by k_mem)
        have w2 := N28 (nums, _) (by k_mem)
        have w3 := N28 (L + 1, _) (by k_mem)
        have F28' := Nonempty.intro F28
        refine ⟨s₁.heap, _, D12, ws12, 0, fun i y _ => ∃ x t, (List.take 12 ns)[i]? = some x ∧ y = .str (pick "#[]{}~|\\^abz" ((x.fdiv 20).fmod 12)) t, rfl, ⟨rfl, F28, r12.1, r12.2.1, by omega, fun i y h h' _ x => x, ?elm2⟩, ?fin2⟩
        case elm2 =>
          intro i v C s₃ m₃ oC hii hv hC eC hoC hm F3 low3 hCL hCb
          obtain ⟨x, tx, rfl, hx⟩ := hi12.at _ _ hv
          have N3 : News s₁.heap L s₃.heap [(C, oC)] := by
            intro p hp
            rw [List.mem_singleton.mp hp]
            exact ⟨eC, hCL, hCb⟩
          have fin := fun (tk : Nat) (y : Value) (z : ∃ x t, (List.take 12 ns)[i]? = some x ∧ y = Value.str (pick "#[]{}~|\\^abz" ((x.fdiv 20).fmod 12)) t) => ElmEnd.mk' (El := fun y _ => ∃ x t, (List.take 12 ns)[i]? = some x ∧ y = Value.str (pick "#[]{}~|\\^abz" ((x.fdiv 20).fmod 12)) t) (tk := tk) F3 F3 (KeepBut.refl _ _) z
          clear F28 N28
          k_steps
          exact fin _ _ ⟨x, _, hx, rfl⟩
        case fin2 =>
          intro D13 ys13 h29 tk29 c29
          try dsimp only at c29 ⊢
          have F29 := c29.fr
          have low29 := fun b o (hb : b ≠ L) => c29.low b o (fun q => hb (List.mem_singleton.mp q))
          have lE29 : ListAt h29 D2 (sgsOf sp0 ns) := (lE27.kept (Classical.choice F27') kb28 D2L).kept (Classical.choice F28') c29.low D2L
          obtain ⟨own29, hro29⟩ : ∃ own29, own29 = rest s₁.heap L [] h29 := ⟨_, rfl⟩
          have N29 : News s₁.heap L h29 ((D13, lstO ys13) :: (dK, oK3) :: (nums, listOf (List.toArray vs) 0) :: (L + 1, on) :: own29) := by
            intro p hp
            rcases List.mem_cons.mp hp with rfl | hp
            · exact ⟨c29.at', c29.ne, c29.nb⟩
            rcases List.mem_cons.mp hp with rfl | hp
            · exact ⟨low29 _ _ w1.2.1 w1.1, w1.2⟩
            rcases List.mem_cons.mp hp with rfl | hp
            · exact ⟨low29 _ _ w2.2.1 w2.1, w2.2⟩
            rcases List.mem_cons.mp hp with rfl | hp
            · exact ⟨low29 _ _ w3.2.1 w3.1, w3.2⟩
            exact rest_news p (hro29 ▸ hp)
          have O29 := Over.ofFr F29
          have F29' := Nonempty.intro F29
          have ss13 := strs_of_el ys13 (List.take 12 ns) (by rw [c29.len, hws]) c29.el
          clear low29 N28 F28 F28' lE27 kb28 c29
          repeat' (first | (k_unfold; (try dsimp only)) | ((fail_if_success (first | (with_reducible show wpAny _ _ (call (Value.builtin "str.join") _) _ _ _))); (first | walk1 | (dsimp only; walk1) | (leave1; try dsimp only))) | fail "no step")
          refine join_listW (items := List.toArray ys13) ⟨_, (N29 _ (.head _)).1, rfl, _, rfl⟩ ss13 (by decide) (by rw [ones_sum, List.length_map]; omega) (fun tj2 kj2 => ?_)
          clear ss13
          generalize hT2 : Txt.join (Str.ofString "") (List.map (fun x => pick "#[]{}~|\\^abz" ((x.fdiv 20).fmod 12)) (List.take 12 ns)) = t2
          have ht2 : t2.length = (List.take 12 ns).length := hT2 ▸ joined_size (S := "#[]{}~|\\^abz") (q := fun x => (x.fdiv 20).fmod 12)
          have hc2 : AllC bsign t2 := hT2 ▸ joined_all (p := bsign) (S := "#[]{}~|\\^abz") (q := fun x => (x.fdiv 20).fmod 12) rfl (AllC.of (by decide +kernel))
          have lt2 : t2.length ≤ 12 := by omega
          try dsimp only
          repeat' (first | (k_unfold; (try dsimp only)) | ((fail_if_success (first | (with_reducible show wpAny _ _ (pyIter _) _ _ _))); (first | walk1 | (dsimp only; walk1) | (leave1; try dsimp only))) | fail "no step")
          rename_i tX kX aX
          generalize hX2 : t2 ++ Str.ofString "#" = xs
          have lxs : xs.cps.size ≤ 13 := by
            have e : xs.length = t2.length + (Str.ofString "#").length := hX2 ▸ Str.length_append ..
            have e1 : (Str.ofString "#").length = 1 := by decide +kernel
            show xs.length ≤ 13
            omega
          have hcs : AllC bsign xs := hX2 ▸ hc2.append (AllC.of (by decide +kernel))
          have hasc : xs.cps.all (· < 128) = true := by
            rw [Array.all_eq_true']
            exact fun c hc => (bsign_is (hcs c (Array.mem_toList_iff.mpr hc))).2.2
          have s1 := N29 (dK, _) (by k_mem)
          have s2 := N29 (nums, _) (by k_mem)
          have s3 := N29 (L + 1, _) (by k_mem)
          clear hX2 hT2 hc2 ht2 lt2
          refine wpAny_pyIter_ascii hasc ?_
          obtain ⟨m29, hm29, F29m⟩ : ∃ m29, m29 = _ ∧ Fr s₁.heap L h29 m29 := ⟨_, rfl, F29⟩
          obtain ⟨ts0, hsp29⟩ : ∃ ts0, m29 (Str.ofString "spelled") = some (.str sp0 ts0) := ⟨_, by rw [hm29]; rfl⟩
          have hL29 := F29m.ns.lt
          obtain ⟨ys29, n29, e29, l29, _⟩ := lE29.at'
          clear F29 N29 F29' O29
          refine for_iter (cw := [D2]) (N0 := h29.objs.size + 1) (Iter.ofWalks (Walks.strAscii (by exact rfl) h29.objs.size xs tX) _ _ ?hcw2 ?hsol2) rfl rfl rfl ?hLw2 ?hLN2 ?hwr2 ?hst2 (F29m.push _) (signJ L D2 h29 ns m29) ?h02 ?hJ2 ?step2 ?hR2
          case hcw2 =>
            intro b hb
            rw [List.mem_singleton.mp hb]
            simp only [List.mem_cons, List.not_mem_nil, or_false, not_or]
            exact ⟨Nat.ne_of_gt hL29, Nat.ne_of_gt (Heap.lt_size e29)⟩
          case hsol2 =>
            rintro i h ⟨o', e', c', _⟩ b hb o e
            rw [List.mem_singleton.mp hb, e'] at e; cases e
            rintro (⟨a, q⟩ | q | q) <;> (rw [c'] at q; exact absurd q (by simp))
          case hLw2 => exact fun hm => Nat.ne_of_lt hL29 (List.mem_singleton.mp hm)
          case hLN2 => exact Nat.lt_succ_of_lt hL29
          case hwr2 => intro b hb; rw [List.mem_singleton.mp hb]; exact next_is_new F29m
          case hst2 => exact ⟨_, Heap.get?_push_size _ rfl, rfl, rfl⟩
          case h02 =>
            refine ⟨_, sp0, ts0, sgsOf sp0 ns, reM (stored := [Str.ofString "sign"]) (fun y hy => ?_), (lE29.keep (fun b o so e => Heap.get?_push_of_some _ e) fun o e => Heap.get?_push_of_some _ e), tri_qm lsp3 (fun i hi => csp i (lsp ▸ hi)), Nat.le_trans lsp3 (by omega), by rw [sgsOf_len]; exact Nat.le_trans lsp3 (by omega), lowsp, fun b o _ _ e => Heap.get?_push_of_some _ e⟩
            by_cases q : y = Str.ofString "spelled"
            · rw [if_pos q, q, hsp29]
            · rw [if_neg q]
          case hJ2 =>
            rintro i m h h' ⟨mm, hns⟩ kh ⟨u, sp, ts, cur, rfl, z1, z2, z3, z4, z5, z6⟩
            refine ⟨u, sp, ts, cur, rfl, z1.keep (fun b o so e => kh b o (fun q => ?_) (.inl ⟨rfl, .inl so.solid⟩) e) (fun o e => kh D2 o D2L (.inl ⟨rfl, .inr fun q => ?_⟩) e), z2, z3, z4, z5, fun b o hb hd e => kh b o hb (.inl ⟨rfl, .inr fun q => ?_⟩) (z6 b o hb hd e)⟩
            · obtain ⟨oL, es, ep, eL, dL, _⟩ := hns
              rw [q, eL] at e; cases e
              obtain ⟨its, k, dq⟩ := so.2
              rw [dL] at dq; cases dq
            · exact absurd (Heap.lt_size e29) (by rw [List.mem_singleton.mp q]; exact Nat.lt_irrefl _)
            · exact absurd (Heap.lt_size e) (by rw [List.mem_singleton.mp q]; exact Nat.lt_irrefl _)
          case step2 =>
            rintro i v m₁ s₂ hit ⟨c, tc, hc, rfl⟩ hstI ⟨u, sp, ts, cur, rfl, z1, z2, z3, z4, z5, z6⟩ F30
            have hbc : bsign c = true := hcs c (Array.mem_toList_iff.mpr (Array.mem_of_getElem? hc))
            obtain ⟨ys30, n30, e30, l30, t30⟩ := z1.at'
            have O30 := Over.ofFr F30
            obtain ⟨own30, hro30⟩ : ∃ own30, own30 = rest s₁.heap L [D2] s₂.heap := ⟨_, rfl⟩
            have hoff : OwnOff own30 [D2] := hro30 ▸ rest_ownOff
            have N30 : News s₁.heap L s₂.heap ((D2, listOf (List.toArray ys30) n30) :: (dK, oK3) :: (nums, listOf (List.toArray vs) 0) :: (L + 1, on) :: own30) := by
              intro p hp
              rcases List.mem_cons.mp hp with rfl | hp
              · exact ⟨e30, D2L, D2b⟩
              rcases List.mem_cons.mp hp with rfl | hp
              · exact ⟨z6 _ _ s1.2.1 nK.symm s1.1, s1.2⟩
              rcases List.mem_cons.mp hp with rfl | hp
              · exact ⟨z6 _ _ s2.2.1 nN s2.1, s2.2⟩
              rcases List.mem_cons.mp hp with rfl | hp
              · exact ⟨z6 _ _ s3.2.1 nC3 s3.1, s3.2⟩
              exact rest_news p (hro30 ▸ hp)
            have nsL : ∃ mm, s₂.heap.Ns L mm := ⟨_, F30.ns⟩
            replace nsL : ∃ oL es ep, s₂.heap.get? L = some oL ∧ oL.data = .dict es ep ∧ True := let ⟨mm, oL, es, ep, a, b, _⟩ := nsL; ⟨oL, es, ep, a, b, trivial⟩
            rw [hm29] at F30
            have lsp40 : sp.length ≤ 50 := by omega
            k_steps
            (rename Fr s₁.heap _ _ _ => F31); (rename News s₁.heap _ _ _ => N31)
            have v2 := N31 (nums, _) (by k_mem)
            refine place_spec (i := sp.length) KX T (Over.ofFr F31) (Nat.lt_of_le_of_lt (cA_depth _) (by decide)) v2.2.2 v2.1 hi hfit (by omega) rfl ?_
            intro tup t1 t2' t3 h32 tk32 k32 e32 e33
            have F32 := F31.keeps k32
            have N32 := news_add F31 (N31.grown k32) e32 e33
            clear F31 N31
            try k_unmd
            try k_unfold
            try dsimp only
            repeat' (first | (k_unfold; (try dsimp only)) | ((fail_if_success (first | (with_reducible show wpAny _ _ (compareOp CmpOp.In _ _) _ _ _))); (first | walk1 | (dsimp only; walk1) | (leave1; try dsimp only))) | fail "no step")
            (rename Fr s₁.heap _ _ _ => F33); (rename News s₁.heap _ _ _ => N33)
            rename_i DT h33 lt33
            have kb33 : KeepBut [L, D2] s₂.heap h33 := rest_keep O30 F33 N33 fun p hp => .tail _ (.tail _ (.tail _ (.tail _ (.tail _ (.tail _ (.tail _ (hro30 ▸ hp)))))))
            have pT := N33 _ (.head _)
            have pD := N33 (D2, _) (by k_mem)
            have u1 := N33 (dK, _) (by k_mem)
            have u2 := N33 (nums, _) (by k_mem)
            have u3 := N33 (L + 1, _) (by k_mem)
            have nT : DT ≠ D2 := Nat.ne_of_gt lt33.2.2.1
            have i13 : i < 13 := Nat.lt_of_lt_of_le hit lxs
            have c16 : cur.length ≤ 16 := by omega
            refine append_at (hsz := by rw [List.size_toArray, l30]; exact Nat.le_trans c16 (by decide)) pD.1 (fun h34 hs34 e34 => ?_)
            have F34 := F33.change hs34 D2L D2b
            obtain ⟨own34, hro34⟩ : ∃ own34, own34 = rest s₁.heap L [] h34 := ⟨_, rfl⟩
            have O34 := Over.ofFr F34
            have N34 : News s₁.heap L h34 ((dK, oK3) :: own34) := by
              intro p hp
              rcases List.mem_cons.mp hp with rfl | hp
              · exact ⟨(hs34.2 _ nK.symm).trans u1.1, u1.2⟩
              exact rest_news p (hro34 ▸ hp)
            have kb34 : KeepBut [L, D2] s₂.heap h34 := fun b o hb e => (hs34.2 b (fun q => hb (by rw [q]; simp))).trans (kb33 b o hb e)
            clear F33 N33
            repeat' (first | (k_unfold; (try dsimp only)) | ((fail_if_success (first | (with_reducible show wpAny _ _ (compareOp CmpOp.In _ _) _ _ _))); (first | walk1 | (dsimp only; walk1) | (leave1; try dsimp only))) | fail "no step")
            have fin2 : ∀ (h' : Heap) (tk : Nat) (m9 : Str → Option Value) (ts' : Tok), Fr s₁.heap L h' m9 → KeepBut [L] h34 h' → (∀ y, [Str.ofString "sign"].contains y = false → m9 y = if y = Str.ofString "spelled" then some (.str (sp ++ piece ⟨#[c]⟩) ts') else m29 y) →
                TurnEnd s₁.heap L [D2] (signJ L D2 h29 ns m29 (i + 1)) s₂ .next { heap := h', gens := s₂.gens, drawn := s₂.drawn, toks := tk, os := s₂.os } := by
              intro h' tk m9 ts' F9 k9 hm9
              have kb9 : KeepBut [L, D2] s₂.heap h' := fun b o hb e => k9 b o (fun q => hb (by rw [List.mem_singleton.mp q]; simp)) (kb34 b o hb e)
              have firm9 : Firm s₂.heap h' := fun b o so e => kb9 b o (fun hm => by
                obtain ⟨its, kq, dq⟩ := so.2
                rcases List.mem_cons.mp hm with q | q
                · rw [q] at e
                  obtain ⟨oL, es, ep, eL, dL, _⟩ := nsL
                  rw [eL] at e; cases e
                  rw [dL] at dq; cases dq
                · rw [List.mem_singleton.mp q, e30] at e; cases e
                  exact absurd so.1 (by simp)) e
              have pr : Prs (TupAt s₂.heap) ys30 cur := ⟨l30, t30⟩
              have eT : h'.get? DT = some (tup4 ⟨⟨#[c]⟩, fileF ns sp.length, rowF ns sp.length, colF ns sp.length⟩ tc t1 t2' t3) := k9 _ _ (fun q => pT.2.1 (List.mem_singleton.mp q)) ((hs34.2 _ nT).trans pT.1)
              have eD : h'.get? D2 = some (listOf (List.toArray (ys30 ++ [Value.ref DT])) (n30 + 1)) := by
                have e := k9 _ _ (fun q => D2L (List.mem_singleton.mp q)) e34
                rw [e]; simp
              have lp := piece_size (c := c)
              refine TurnEnd.mk' kb9 F9 ⟨_, sp ++ piece ⟨#[c]⟩, ts', cur ++ [⟨⟨#[c]⟩, fileF ns sp.length, rowF ns sp.length, colF ns sp.length⟩], reM (stored := [Str.ofString "sign"]) hm9, ListAt.of eD ((pr.mono fun y g t => t.firm firm9).append (Prs.one ⟨DT, tc, t1, t2', t3, rfl, eT⟩)), ?_, ?_, ?_, z5.append (piece_low (bsign_is hbc).2.2), fun b o hb hd e => kb9 b o (by simp [hb, hd]) (z6 b o hb hd e)⟩
              · rw [spell_step hbc, z2]; rfl
              · rw [Str.length_append]; omega
              · rw [List.length_append, List.length_singleton]; omega
            have mapEq : ∀ (A B : Option Value) (y : Str), [Str.ofString "sign"].contains y = false → (if y = Str.ofString "spelled" then A else if y = Str.ofString "sign" then B else (if [Str.ofString "sign"].contains y = true then u y else if y = Str.ofString "spelled" then some (.str sp ts) else m29 y)) = if y = Str.ofString "spelled" then A else m29 y := fun A B y hy => by
              by_cases q : y = Str.ofString "spelled"
              · exact (if_pos q).trans (if_pos q).symm
              · exact (if_neg q).trans ((if_neg (by rintro rfl; simp at hy)).trans ((if_neg (by rw [hy]; decide)).trans ((if_neg q).trans (if_neg q).symm)))
            cases hrev : revOf ⟨#[c]⟩ with
            | none =>
              have ep : piece ⟨#[c]⟩ = ⟨#[c]⟩ := by unfold piece; rw [hrev]
              rw [ep] at fin2
              refine kda_in (k := (⟨#[c]⟩ : Str)) N34 (.head _) g2 loK (by with_unfolding_all simp [PySem.strKind, Value.isStrOf]) false (by rw [(g3.valueAt).1 hrev]; rfl) ?_
              try dsimp only
              k_steps
              (rename Fr s₁.heap _ _ _ => F35); (rename News s₁.heap _ _ _ => N35)
              subst hm29
              exact fin2 _ _ _ _ F35 (rest_keep O34 F35 N35 fun p hp => .tail _ (hro34 ▸ hp)) (mapEq _ _)
            | some x =>
              have ep : piece ⟨#[c]⟩ = Str.ofString "??" ++ x := by unfold piece; rw [hrev]
              rw [ep] at fin2
              have lx : x.length = 1 := (rev_small _ (datumAt_some WS hrev)).1
              obtain ⟨tv, hv⟩ := (g3.valueAt).2 x hrev
              refine kda_in (k := (⟨#[c]⟩ : Str)) N34 (.head _) g2 loK (by with_unfolding_all simp [PySem.strKind, Value.isStrOf]) true (by rw [hv]; rfl) ?_
              try dsimp only
              repeat' (first | (k_unfold; (try dsimp only)) | ((fail_if_success (first | (with_reducible show wpAny _ _ (subscriptTail _ _ (Value.ref _) _) _ _ _))); (first | walk1 | (dsimp only; walk1) | (leave1; try dsimp only))) | fail "no step")
              refine kda_item (k := (⟨#[c]⟩ : Str)) N34 (.head _) g2 (by with_unfolding_all simp [PySem.strKind, Value.isStrOf]) hv ?_
              try dsimp only
              k_steps
              (rename Fr s₁.heap _ _ _ => F35); (rename News s₁.heap _ _ _ => N35)
              subst hm29
              exact fin2 _ _ _ _ F35 (rest_keep O34 F35 N35 fun p hp => .tail _ (hro34 ▸ hp)) (mapEq _ _)
          case hR2 =>
            rintro s' m' F36 ⟨u9, sp, ts, cur, rfl, z1, z2, z3, z4, z5, z6⟩ hg' hb' hd' ho'
            obtain ⟨h36, g36, dr36, tk36, os36⟩ := s'
            have hg9 := hg' rfl
            dsimp only at hg9 hd' ho' z1 z6 ⊢
            subst hg9 hd' ho'
            have lsp9 : sp.cps.size ≤ 50 := Nat.le_trans z3 (by omega)
            obtain ⟨own36, hro36⟩ : ∃ own36, own36 = rest s₁.heap L [] h36 := ⟨_, rfl⟩
            have O36 := Over.ofFr F36
            have F36' := Nonempty.intro F36
            have N36 : News s₁.heap L h36 ((nums, listOf (List.toArray vs) 0) :: (L + 1, on) :: own36) := by
              intro p hp
              rcases List.mem_cons.mp hp with rfl | hp
              · exact ⟨z6 _ _ s2.2.1 nN s2.1, s2.2⟩
              rcases List.mem_cons.mp hp with rfl | hp
              · exact ⟨z6 _ _ s3.2.1 nC3 s3.1, s3.2⟩
              exact rest_news p (hro36 ▸ hp)
            rw [hm29] at F36
            clear F29m z6 lE29
            k_steps
            (rename Fr s₁.heap _ _ _ => F37); (rename News s₁.heap _ _ _ => N37)
            have x1 := N37 (nums, _) (by k_mem)
            refine chars_spec KX T (Over.ofFr F37) rfl (cA_depth _) (cA_units _) x1.2.2 x1.1 hi hfit (Nat.le_trans lsp9 (by decide)) ?_
            intro aE cs2 h38 tk38 k38 nE eE lE2 hCE
            try dsimp only at k38 nE hCE
            have F38 := F37.keeps k38
            have hnE := none_of_fr F37 nE
            have nb37 := fun b e => (none_of_fr (b := b) F37 e).1
            have lZ38 : ListAt h38 D2 cur := z1.keep (fun b o _ e => k38 b o e) (k38 D2)
            clear F37 N37 F36' O36 z1
            try k_unmd
            try k_unfold
            try dsimp only
            repeat' (first | (k_unfold; (try dsimp only)) | ((fail_if_success (first | (with_reducible show wpAny _ _ (call (Value.builtin "iter") _) _ _ _))); (first | walk1 | (dsimp only; walk1) | (leave1; try dsimp only))) | fail "no step")
            refine iter_list eE (fun It3 h39 k39 nI3 eI3 hI3 => ?_)
            try dsimp only at k39 nI3
            have F39 := F38.keeps k39
            have hnI3 := none_of_fr F38 nI3
            clear F38
            try dsimp only
            k_steps
            (rename Fr s₁.heap _ _ _ => F40)
            refine filter_spec (cs := cs2) (sgs := sgsOf sp ns) (cl := aE) KX T (Over.ofFr F40) rfl (cA_depth _) (cA_units _) hnI3.1 hnE.1 hI3 ⟨_, k39 _ _ eE, rfl, _, rfl⟩ (by rw [sgsOf_len, lE2]) (by rw [sgsOf_len]; exact Nat.le_trans lsp9 (by decide)) (chars_in hCE k39 nb37) ?_
            intro aG3 Lg3 gs3 h41 tk41 k41 nG3 nLg3 hG3 hLg3 hb3 hF3
            rw [run_eq, z2] at hF3
            have F41 := F40.keeps k41
            have hnLg3 := none_of_fr F40 nLg3
            have hwr3 : ∀ b ∈ [Lg3, It3], ∃ o, h41.get? b = some o := by
              intro b hb
              rcases List.mem_cons.mp hb with rfl | hb
              · exact hLg3
              · rw [List.mem_singleton.mp hb]
                obtain ⟨o, e⟩ := eI3
                exact ⟨o, k41 _ _ e⟩
            have hwn3 : ∀ b ∈ [Lg3, It3], s₁.heap.get? b = none := by
              intro b hb
              rcases List.mem_cons.mp hb with rfl | hb
              · exact hnLg3.1
              · rw [List.mem_singleton.mp hb]; exact hnI3.1
            have N41 : News s₁.heap L h41 [] := News.nil
            clear F40
            try dsimp only at hF3 hG3
            try k_unmd
            try k_unfold
            try dsimp only
            k_steps
            (rename Fr s₁.heap _ _ _ => F42)
            have c16 : cur.length ≤ 100 := Nat.le_trans z4 (by omega)
            refine told_spec (base := s₁.heap) (gs := false) (wr0 := [Lg3, It3]) (sgs := cur) KX T (Over.ofFr F42) rfl (cA_depth _) (cA_units _) c16 (fun b hb => ⟨let ⟨o, e⟩ := hwr3 b hb; Heap.lt_size e, hwn3 b hb⟩) (fun env => (hF3.later (fun _ _ e => e) rfl).src hG3 hwr3 rfl (cA_depth2 _ _) (cA_units2 _ _)) ?_
            intro aT3 ysT3 s43 nT3 eT3 lT3 tT3 kT3 gT3 bT3 dT3 oT3
            obtain ⟨h43, g43, dr43, tk43, os43⟩ := s43
            dsimp only at nT3 eT3 tT3 kT3 bT3 dT3 oT3 ⊢
            subst dT3 oT3
            have bare43 : AllBare g43 := bT3 (by
              intro y hy
              rcases Array.mem_push.mp hy with hy | rfl
              · exact bare18 y hy
              · exact hb3)
            have F44 := fr_but F42 kT3 (by simp only [List.mem_cons, List.not_mem_nil, or_false, not_or]; exact ⟨Ne.symm hnLg3.2, Ne.symm hnI3.2⟩) hwn3
            have N44 : News s₁.heap L h43 [] := News.nil
            have kZ : ∀ b o, h38.get? b = some o → h43.get? b = some o := fun b o e => kT3 b o (fun hm => by
              rcases List.mem_cons.mp hm with q | q
              · have := k39 _ _ e
                rw [q] at this
                dsimp only at nLg3
                rw [nLg3] at this; cases this
              · rw [List.mem_singleton.mp q, nI3] at e; cases e) (k41 _ _ (k39 _ _ e))
            have lZ43 : ListAt h43 D2 cur := lZ38.keep (fun b o _ e => kZ b o e) (kZ D2)
            have lT43 : ListAt h43 aT3 cur := ⟨ysT3, _, eT3, lT3, tT3⟩
            have sok3 : ∀ g ∈ cur, okS g := by
              rw [← z2, ← run_eq]
              exact run_ok (sgs_ok z5)
            clear F42 gT3
            repeat' (first | (k_unfold; (try dsimp only)) | ((fail_if_success (first | (with_reducible show wpAny _ _ (compareOp CmpOp.Eq _ _) _ _ _))); (first | walk1 | (dsimp only; walk1) | (leave1; try dsimp only))) | fail "no step")
            refine told_eq lT43 lZ43 sok3 (Nat.lt_of_le_of_lt (Nat.add_le_add_right (cA_units _) 64) (by decide)) ?_
            (rename Fr s₁.heap _ _ _ => F45)
            exact law_end F45.keep bare43)
end Mine
theorem PySem.Challenge.cw_rk0003_01_holds : PySem.Challenge.rw_rk0003_01.Holds := by
  exact Mine.final
