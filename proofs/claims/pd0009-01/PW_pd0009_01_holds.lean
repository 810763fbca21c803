import PyProof.Rows.All
import Wide.All
import OpenK.AllK
import Wide.FinOn
import PySem.Challenge.RW_pd0009_01
open PySem PySem.W PySem.Calls PyProof PyProof.Rows
set_option Elab.async false
set_option maxRecDepth 100000
set_option linter.unusedVariables false
set_option linter.unusedSimpArgs false
namespace Mine
/-! the frame logic: a frozen heap z, the locals m at L, the mutable objects ms -/
def gone : Obj := { cls := .none, data := .freed }
def only (h : Heap) (p : Addr → Bool) : Heap := ⟨h.objs.mapIdx fun i o => if p i then o else gone, h.life⟩
theorem only_get (h : Heap) (p : Addr → Bool) (a : Addr) : (only h p).get? a = if p a then h.get? a else none := by
  unfold only Heap.get?
  simp only [Array.getElem?_mapIdx]
  cases h.objs[a]? with
  | none => simp
  | some o => by_cases hp : p a <;> simp [hp, gone]
theorem only_some {h : Heap} {p : Addr → Bool} {a : Addr} {o : Obj} : (only h p).get? a = some o ↔ p a = true ∧ h.get? a = some o := by
  rw [only_get]; by_cases hp : p a <;> simp [hp]
theorem only_size (h : Heap) (p : Addr → Bool) : (only h p).objs.size = h.objs.size := by simp [only]

theorem stays_refl (h : Heap) : h.StaysIn h := fun _ _ e => e
theorem stays_trans {a b c : Heap} (x : a.StaysIn b) (y : b.StaysIn c) : a.StaysIn c := fun p o e => y p o (x p o e)

structure Step (z h z' h' : Heap) : Prop where
  zz : z.StaysIn z'
  hh : h.StaysIn h'
  zh : z'.StaysIn h'
  sz : h.objs.size ≤ h'.objs.size
  new : ∀ a o, z'.get? a = some o → h.objs.size ≤ a ∨ z.get? a = some o

theorem Step.refl {z h : Heap} (k : z.StaysIn h) : Step z h z h := ⟨stays_refl _, stays_refl _, k, Nat.le_refl _, fun _ _ e => .inr e⟩
theorem Step.trans {z h z' h' z'' h'' : Heap} (x : Step z h z' h') (y : Step z' h' z'' h'') : Step z h z'' h'' :=
  ⟨stays_trans x.zz y.zz, stays_trans x.hh y.hh, y.zh, Nat.le_trans x.sz y.sz, fun a o e => (y.new a o e).elim (fun q => .inl (Nat.le_trans x.sz q)) (x.new a o)⟩
def cut (z h h' : Heap) : Heap := only h' fun a => (z.get? a).isSome || decide (h.objs.size ≤ a)
theorem Step.cut {z h h' : Heap} (zh : z.StaysIn h) (hh : h.StaysIn h') (sz : h.objs.size ≤ h'.objs.size) : Step z h (cut z h h') h' where
  zz := fun a o e => only_some.mpr ⟨by simp [e], hh _ _ (zh _ _ e)⟩
  hh := hh
  zh := fun a o e => (only_some.mp e).2
  sz := sz
  new := fun a o e => by
    obtain ⟨h1, h2⟩ := only_some.mp e
    rcases Bool.or_eq_true_iff.mp h1 with q | q
    · obtain ⟨o', q⟩ := Option.isSome_iff_exists.mp q
      have := hh _ _ (zh _ _ q)
      rw [h2] at this; cases this; exact .inr q
    · exact .inl (of_decide_eq_true q)
theorem cut_new {z h h' : Heap} {a : Addr} {o : Obj} (ha : h.objs.size ≤ a) (e : h'.get? a = some o) : (cut z h h').get? a = some o :=
  only_some.mpr ⟨by simp [ha], e⟩
theorem push_stays (h : Heap) (o : Obj) : h.StaysIn (h.push o) := fun _ _ e => Heap.get?_push_of_some o e
theorem Step.push {z h : Heap} (zh : z.StaysIn h) (o : Obj) : Step z h (Mine.cut z h (h.push o)) (h.push o) :=
  Step.cut zh (push_stays h o) (by rw [Heap.size_push]; exact Nat.le_succ _)

def upd (m : Str → Option Value) (x : Str) (v : Value) : Str → Option Value := fun y => if y = x then some v else m y
theorem upd_same {m : Str → Option Value} {x : Str} {v : Value} : upd m x v x = some v := if_pos rfl
theorem upd_ne {m : Str → Option Value} {x y : Str} {v : Value} {r : Option Value} (hn : y ≠ x) (h : m y = r) : upd m x v y = r := (if_neg hn).trans h

structure Fz (lo : Nat) (z₀ hc z : Heap) (L : Addr) (m : Str → Option Value) (ms : List (Addr × Obj)) (h : Heap) : Prop where
  ns : h.Ns L m
  keep : z.StaysIn h
  base : hc.StaysIn h
  sz : lo ≤ h.objs.size
  zz : z₀.StaysIn z
  new : ∀ a o, z.get? a = some o → lo ≤ a ∨ z₀.get? a = some o
  zL : z.get? L = none
  cL : hc.get? L = none
  mu : ∀ p ∈ ms, h.get? p.1 = some p.2 ∧ p.1 ≠ L ∧ z.get? p.1 = none ∧ hc.get? p.1 = none ∧ lo ≤ p.1
  nd : (ms.map (·.1)).Nodup

section
variable {lo : Nat} {z₀ hc z z' h h' : Heap} {L : Addr} {m m' : Str → Option Value} {ms : List (Addr × Obj)}

theorem ne_of_get {h : Heap} {a b : Addr} {o : Obj} (ha : h.get? a = some o) (hb : h.get? b = none) : a ≠ b := by
  rintro rfl; rw [ha] at hb; cases hb

theorem Fz.store (F : Fz lo z₀ hc z L m ms h) (hn : h'.Ns L m') (hs : Heap.SameBut L h h') : Fz lo z₀ hc z L m' ms h' where
  ns := hn
  keep := fun b o e => (hs.2 b (ne_of_get e F.zL)).trans (F.keep b o e)
  base := fun b o e => (hs.2 b (ne_of_get e F.cL)).trans (F.base b o e)
  sz := by rw [hs.1]; exact F.sz
  zz := F.zz
  new := F.new
  zL := F.zL
  cL := F.cL
  mu := fun p hp => let M := F.mu p hp; ⟨(hs.2 _ M.2.1).trans M.1, M.2⟩
  nd := F.nd

theorem get_none_ge {h : Heap} {a : Addr} (ha : h.objs.size ≤ a) : h.get? a = none := by
  cases e : h.get? a with
  | none => rfl
  | some o => exact absurd (Heap.lt_size e) (Nat.not_lt.mpr ha)

theorem Step.none_of {z h z' h' : Heap} (x : Step z h z' h') {a : Addr} {o : Obj} (hz : z.get? a = none) (ha : h.get? a = some o) : z'.get? a = none := by
  cases e : z'.get? a with
  | none => rfl
  | some o' =>
    rcases x.new a o' e with q | q
    · exact absurd (Heap.lt_size ha) (Nat.not_lt.mpr q)
    · rw [hz] at q; cases q

theorem Fz.step (F : Fz lo z₀ hc z L m ms h) (x : Step z h z' h') : Fz lo z₀ hc z' L m ms h' where
  ns := F.ns.keeps x.hh
  keep := x.zh
  base := stays_trans F.base x.hh
  sz := Nat.le_trans F.sz x.sz
  zz := stays_trans F.zz x.zz
  new := fun a o e => (x.new a o e).elim (fun q => .inl (Nat.le_trans F.sz q)) (F.new a o)
  zL := let ⟨_, _, _, ho, _⟩ := F.ns; x.none_of F.zL ho
  cL := F.cL
  mu := fun p hp => let M := F.mu p hp; ⟨x.hh _ _ M.1, M.2.1, x.none_of M.2.2.1 M.1, M.2.2.2⟩
  nd := F.nd

theorem Fz.pushMut (F : Fz lo z₀ hc z L m ms h) (o : Obj) (hf : o.isFreed = false := by rfl) : Fz lo z₀ hc z L m ((h.objs.size, o) :: ms) (h.push o) where
  ns := F.ns.push o
  keep := stays_trans F.keep (push_stays h o)
  base := stays_trans F.base (push_stays h o)
  sz := by rw [Heap.size_push]; exact Nat.le_succ_of_le F.sz
  zz := F.zz
  new := F.new
  zL := F.zL
  cL := F.cL
  mu := fun p hp => by
    rcases List.mem_cons.mp hp with rfl | hp
    · exact ⟨Heap.get?_push_size _ hf, Nat.ne_of_gt F.ns.lt, F.keep.fresh, F.base.fresh, F.sz⟩
    · have M := F.mu p hp; exact ⟨push_stays h o _ _ M.1, M.2⟩
  nd := by
    rw [List.map_cons, List.nodup_cons]
    refine ⟨fun q => ?_, F.nd⟩
    obtain ⟨p, hp, e⟩ := List.mem_map.mp q
    have := Heap.lt_size (F.mu p hp).1
    rw [e] at this; exact Nat.lt_irrefl _ this

theorem Fz.drop {p : Addr × Obj} (F : Fz lo z₀ hc z L m (p :: ms) h) : Fz lo z₀ hc z L m ms h :=
  { F with mu := fun q hq => F.mu q (.tail _ hq), nd := (List.nodup_cons.mp F.nd).2 }

theorem Fz.freeze {a : Addr} {o : Obj} (F : Fz lo z₀ hc z L m ((a, o) :: ms) h) : ∃ z', Fz lo z₀ hc z' L m ms h ∧ z.StaysIn z' ∧ z'.get? a = some o := by
  have Ma := F.mu (a, o) (.head _)
  have key : ∀ b ob, (only h fun b => (z.get? b).isSome || b == a).get? b = some ob → z.get? b = some ob ∨ (b = a ∧ ob = o) := fun b ob e => by
    obtain ⟨h1, h2⟩ := only_some.mp e
    rcases Bool.or_eq_true_iff.mp h1 with q | q
    · obtain ⟨o', q⟩ := Option.isSome_iff_exists.mp q
      have := F.keep _ _ q
      rw [h2] at this; cases this; exact .inl q
    · have q := beq_iff_eq.mp q
      subst q
      have := Ma.1; rw [h2] at this; cases this; exact .inr ⟨rfl, rfl⟩
  have none_of : ∀ b, z.get? b = none → b ≠ a → (only h fun b => (z.get? b).isSome || b == a).get? b = none := fun b hb hn => by
    cases e : (only h fun b => (z.get? b).isSome || b == a).get? b with
    | none => rfl
    | some ob =>
      rcases key b ob e with q | q
      · rw [hb] at q; cases q
      · exact absurd q.1 hn
  have zz' : z.StaysIn (only h fun b => (z.get? b).isSome || b == a) := fun b ob e => only_some.mpr ⟨by simp [e], F.keep _ _ e⟩
  refine ⟨only h fun b => (z.get? b).isSome || b == a, ⟨F.ns, fun b ob e => (only_some.mp e).2, F.base, F.sz, stays_trans F.zz zz', fun b ob e => ?_, none_of L F.zL (Ne.symm Ma.2.1), F.cL, fun p hp => ?_, (List.nodup_cons.mp F.nd).2⟩, zz', only_some.mpr ⟨by simp, Ma.1⟩⟩
  · rcases key b ob e with q | q
    · exact F.new b ob q
    · exact .inl (q.1 ▸ Ma.2.2.2.2)
  · have M := F.mu p (.tail _ hp)
    refine ⟨M.1, M.2.1, none_of _ M.2.2.1 fun e => ?_, M.2.2.2⟩
    exact (List.nodup_cons.mp F.nd).1 (List.mem_map.mpr ⟨p, hp, e⟩)

theorem Fz.mutate {pre post : List (Addr × Obj)} {a : Addr} {o o' : Obj} (F : Fz lo z₀ hc z L m (pre ++ (a, o) :: post) h) (hs : Heap.SameBut a h h') (ho : h'.get? a = some o') :
    Fz lo z₀ hc z L m (pre ++ (a, o') :: post) h' := by
  have Ma := F.mu (a, o) (by simp)
  have nd := F.nd
  rw [List.map_append, List.map_cons] at nd
  have hn := List.nodup_append.mp nd
  have hpre : ∀ p ∈ pre, p.1 ≠ a := fun p hp e => hn.2.2 _ (List.mem_map_of_mem hp) a (.head _) e
  have hpost : ∀ p ∈ post, p.1 ≠ a := fun p hp e => (List.nodup_cons.mp hn.2.1).1 (List.mem_map.mpr ⟨p, hp, e⟩)
  refine ⟨F.ns.sameBut hs (Ne.symm Ma.2.1), fun b ob e => (hs.2 b (ne_of_get e Ma.2.2.1)).trans (F.keep b ob e), fun b ob e => (hs.2 b (ne_of_get e Ma.2.2.2.1)).trans (F.base b ob e), by rw [hs.1]; exact F.sz, F.zz, F.new, F.zL, F.cL, fun p hp => ?_, by rw [List.map_append, List.map_cons]; exact nd⟩
  rcases List.mem_append.mp hp with q | q
  · have M := F.mu p (by simp [q]); exact ⟨(hs.2 _ (hpre p q)).trans M.1, M.2⟩
  · rcases List.mem_cons.mp q with rfl | q
    · exact ⟨ho, Ma.2⟩
    · have M := F.mu p (by simp [q]); exact ⟨(hs.2 _ (hpost p q)).trans M.1, M.2⟩

theorem Fz.done (F : Fz hc.objs.size z₀ hc z L m ms h) : Step z₀ hc z h := ⟨F.zz, F.base, F.keep, F.sz, F.new⟩

end

/-- the rest of the state is as it was -/
def Like (s s' : Shared) : Prop := s'.gens = s.gens ∧ s'.drawn = s.drawn ∧ s'.os = s.os
theorem Like.refl (s : Shared) : Like s s := ⟨rfl, rfl, rfl⟩
theorem Like.trans {a b c : Shared} (x : Like a b) (y : Like b c) : Like a c := ⟨y.1.trans x.1, y.2.1.trans x.2.1, y.2.2.trans x.2.2⟩

/-- room around -/
structure Rm (A : Around) (n : Nat) : Prop where
  handled : A.handled = none
  depth : A.depth + n < recursionLimit
  units : A.units + 10 * n + 20 < cLine
theorem Rm.le {A : Around} {n k : Nat} (x : Rm A n) (h : k ≤ n) : Rm A k := ⟨x.handled, by have := x.depth; omega, by have := x.units; omega⟩
theorem Rm.deeper {A : Around} {n : Nat} (x : Rm A (n + 1)) (env : Env) : Rm (A.deeper env) n :=
  ⟨x.handled, by have := x.depth; show A.depth + 1 + n < _; omega, by have := x.units; show A.units + 3 + 10 * n + 20 < _; omega⟩
theorem Rm.room {A : Around} {n : Nat} (x : Rm A n) : A.depth < recursionLimit := by have := x.depth; omega
theorem Rm.line {A : Around} {n : Nat} (x : Rm A n) : A.units < cLine := by have := x.units; omega

section
variable {M : Model} {A : Around} {E : Value → Shared → Prop} {s : Shared} {env : Env} {lo : Nat} {z₀ hc z : Heap} {L : Addr} {m : Str → Option Value} {ms : List (Addr × Obj)}

theorem zLocal {x : Str} {pos : Pos} {v : Value} {Q : Value → Shared → Prop} (F : Fz lo z₀ hc z L m ms s.heap) (hv : m x = some v) (h : Q v s) (hL : env.locals = L := by rfl)
    (hk : env.scope.kind = .function := by rfl) (hx : env.kindOf x = some .local := by rfl) (hd : (x == ("__debug__" : Str)) = false := by decide) : wpAny M A (eval (.Name x pos) env) Q E s :=
  wpAny_Name (wpAny_loadName_local hk hx (hL ▸ F.ns) hv h) hd
theorem zLocaln {x : Str} {v : Value} {Q : Value → Shared → Prop} (F : Fz lo z₀ hc z L m ms s.heap) (hv : m x = some v) (h : Q v s) (hL : env.locals = L := by rfl)
    (hk : env.scope.kind = .function := by rfl) (hx : env.kindOf x = some .local := by rfl) : wpAny M A (loadName env x) Q E s :=
  wpAny_loadName_local hk hx (hL ▸ F.ns) hv h
theorem zStore {x : Str} {v : Value} {Q : Unit → Shared → Prop} (F : Fz lo z₀ hc z L m ms s.heap)
    (h : ∀ s', Fz lo z₀ hc z L (upd m x v) ms s'.heap → Like s s' → Q () s') (hL : env.locals = L := by rfl)
    (hx : env.kindOf x = some .local := by rfl) (hp : (env.scope.kind == .class || (env.scope.kind == .module && env.locals != env.globals)) = false := by rfl) : wpAny M A (storeName env x v) Q E s := by
  subst hL
  exact wpAny_storeName_local hx F.ns (fun h' hn hs => h { s with heap := h', toks := s.toks + 1 } (F.store hn hs) ⟨rfl, rfl, rfl⟩) hp
end

def hdSt (i : Nat) : Option Stmt := PySem.Challenge.pw_pd0009_01.main.body[i]?
def hdPa (i : Nat) : Arguments := match hdSt i with | some (.FunctionDef _ p _ _ _ _ _ _ _ _) => p | _ => ⟨[], [], none, [], [], none, []⟩
def hdBd (i : Nat) : List Stmt := match hdSt i with | some (.FunctionDef _ _ b _ _ _ _ _ _ _) => b | _ => []
def hdSc (i : Nat) : Scope := match hdSt i with | some (.FunctionDef _ _ _ _ _ _ c _ _ _) => c | _ => { kind := .function, names := [], isGenerator := false, isCoroutine := false, more := [] }
set_option maxRecDepth 100000
noncomputable def hdO28 : { o : Obj // o = ⟨.type "function", none, .func (fnOf (.ofString "_ctoi") (.ofString "_ctoi") (hdPa 2) (hdBd 2) (hdSc 2) .none .none .none (.str (.ofString "cpy313.curses.ascii") 194) none (.ref 27) .none), #[]⟩ ∧ True } :=
  ⟨_, by (conv in hdPa 2 => whnf); (conv in hdBd 2 => whnf); (conv in hdSc 2 => whnf); exact ⟨rfl, trivial⟩⟩
noncomputable def hdO35 : { o : Obj // o = ⟨.type "function", none, .func (fnOf (.ofString "isprint") (.ofString "isprint") (hdPa 3) (hdBd 3) (hdSc 3) .none .none .none (.str (.ofString "cpy313.curses.ascii") 194) none (.ref 34) .none), #[]⟩ ∧ True } :=
  ⟨_, by (conv in hdPa 3 => whnf); (conv in hdBd 3 => whnf); (conv in hdSc 3 => whnf); exact ⟨rfl, trivial⟩⟩
noncomputable def hdO42 : { o : Obj // o = ⟨.type "function", none, .func (fnOf (.ofString "unctrl") (.ofString "unctrl") (hdPa 4) (hdBd 4) (hdSc 4) .none .none .none (.str (.ofString "cpy313.curses.ascii") 194) none (.ref 41) .none), #[]⟩ ∧ True } :=
  ⟨_, by (conv in hdPa 4 => whnf); (conv in hdBd 4 => whnf); (conv in hdSc 4 => whnf); exact ⟨rfl, trivial⟩⟩
noncomputable def hdO115 : { o : Obj // o = ⟨.type "function", none, .func (fnOf (.ofString "fspath") (.ofString "fspath") (hdPa 13) (hdBd 13) (hdSc 13) .none .none .none (.str (.ofString "os") 306) none (.ref 114) .none), #[]⟩ ∧ True } :=
  ⟨_, by (conv in hdPa 13 => whnf); (conv in hdBd 13 => whnf); (conv in hdSc 13 => whnf); exact ⟨rfl, trivial⟩⟩
noncomputable def hdO122 : { o : Obj // o = ⟨.type "function", none, .func (fnOf (.ofString "_check_arg_types") (.ofString "_check_arg_types") (hdPa 15) (hdBd 15) (hdSc 15) .none .none .none (.str (.ofString "cpy313.genericpath") 318) none (.ref 121) .none), #[]⟩ ∧ True } :=
  ⟨_, by (conv in hdPa 15 => whnf); (conv in hdBd 15 => whnf); (conv in hdSc 15 => whnf); exact ⟨rfl, trivial⟩⟩
noncomputable def hdO129 : { o : Obj // o = ⟨.type "function", none, .func (fnOf (.ofString "_get_sep") (.ofString "_get_sep") (hdPa 17) (hdBd 17) (hdSc 17) .none .none .none (.str (.ofString "cpy313.posixpath") 331) none (.ref 128) .none), #[]⟩ ∧ True } :=
  ⟨_, by (conv in hdPa 17 => whnf); (conv in hdBd 17 => whnf); (conv in hdSc 17 => whnf); exact ⟨rfl, trivial⟩⟩
noncomputable def hdO136 : { o : Obj // o = ⟨.type "function", none, .func (fnOf (.ofString "join") (.ofString "join") (hdPa 18) (hdBd 18) (hdSc 18) .none .none .none (.str (.ofString "cpy313.posixpath") 331) none (.ref 135) .none), #[]⟩ ∧ True } :=
  ⟨_, by (conv in hdPa 18 => whnf); (conv in hdBd 18 => whnf); (conv in hdSc 18 => whnf); exact ⟨rfl, trivial⟩⟩
noncomputable def hdO143 : { o : Obj // o = ⟨.type "function", none, .func (fnOf (.ofString "split") (.ofString "split") (hdPa 19) (hdBd 19) (hdSc 19) .none .none .none (.str (.ofString "cpy313.posixpath") 331) none (.ref 142) .none), #[]⟩ ∧ True } :=
  ⟨_, by (conv in hdPa 19 => whnf); (conv in hdBd 19 => whnf); (conv in hdSc 19 => whnf); exact ⟨rfl, trivial⟩⟩
noncomputable def hdO150 : { o : Obj // o = ⟨.type "function", none, .func (fnOf (.ofString "splitroot") (.ofString "splitroot") (hdPa 20) (hdBd 20) (hdSc 20) .none .none .none (.str (.ofString "cpy313.posixpath") 331) none (.ref 149) .none), #[]⟩ ∧ True } :=
  ⟨_, by (conv in hdPa 20 => whnf); (conv in hdBd 20 => whnf); (conv in hdSc 20 => whnf); exact ⟨rfl, trivial⟩⟩
noncomputable def hdO157 : { o : Obj // o = ⟨.type "function", none, .func (fnOf (.ofString "normpath") (.ofString "normpath") (hdPa 21) (hdBd 21) (hdSc 21) .none .none .none (.str (.ofString "cpy313.posixpath") 331) none (.ref 156) .none), #[]⟩ ∧ True } :=
  ⟨_, by (conv in hdPa 21 => whnf); (conv in hdBd 21 => whnf); (conv in hdSc 21 => whnf); exact ⟨rfl, trivial⟩⟩
noncomputable def hdO164 : { o : Obj // o = ⟨.type "function", none, .func (fnOf (.ofString "_law_parts") (.ofString "_law_parts") (hdPa 23) (hdBd 23) (hdSc 23) .none .none .none (.str (.ofString "law_pd0009_01") 386) none (.ref 163) .none), #[]⟩ ∧ True } :=
  ⟨_, by (conv in hdPa 23 => whnf); (conv in hdBd 23 => whnf); (conv in hdSc 23 => whnf); exact ⟨rfl, trivial⟩⟩
noncomputable def hdO171 : { o : Obj // o = ⟨.type "function", none, .func (fnOf (.ofString "_law_meant") (.ofString "_law_meant") (hdPa 24) (hdBd 24) (hdSc 24) .none .none .none (.str (.ofString "law_pd0009_01") 386) none (.ref 170) .none), #[]⟩ ∧ True } :=
  ⟨_, by (conv in hdPa 24 => whnf); (conv in hdBd 24 => whnf); (conv in hdSc 24 => whnf); exact ⟨rfl, trivial⟩⟩
noncomputable def hdO176 : { o : Obj // o = ⟨.type "function", none, .func (fnOf (.ofString "_law_shown") (.ofString "_law_shown") (hdPa 25) (hdBd 25) (hdSc 25) .none .none .none (.str (.ofString "law_pd0009_01") 386) none (.ref 175) .none), #[]⟩ ∧ True } :=
  ⟨_, by (conv in hdPa 25 => whnf); (conv in hdBd 25 => whnf); (conv in hdSc 25 => whnf); exact ⟨rfl, trivial⟩⟩
noncomputable def hdO183 : { o : Obj // o = ⟨.type "function", none, .func (fnOf (.ofString "_law_drawn") (.ofString "_law_drawn") (hdPa 26) (hdBd 26) (hdSc 26) .none .none .none (.str (.ofString "law_pd0009_01") 386) none (.ref 182) .none), #[]⟩ ∧ True } :=
  ⟨_, by (conv in hdPa 26 => whnf); (conv in hdBd 26 => whnf); (conv in hdSc 26 => whnf); exact ⟨rfl, trivial⟩⟩
noncomputable def hdO190 : { o : Obj // o = ⟨.type "function", none, .func (fnOf (.ofString "_law_cut") (.ofString "_law_cut") (hdPa 27) (hdBd 27) (hdSc 27) .none .none .none (.str (.ofString "law_pd0009_01") 386) none (.ref 189) .none), #[]⟩ ∧ True } :=
  ⟨_, by (conv in hdPa 27 => whnf); (conv in hdBd 27 => whnf); (conv in hdSc 27 => whnf); exact ⟨rfl, trivial⟩⟩
noncomputable def hdO195 : { o : Obj // o = ⟨.type "function", none, .func (fnOf (.ofString "_law_straight") (.ofString "_law_straight") (hdPa 28) (hdBd 28) (hdSc 28) .none .none .none (.str (.ofString "law_pd0009_01") 386) none (.ref 194) .none), #[]⟩ ∧ True } :=
  ⟨_, by (conv in hdPa 28 => whnf); (conv in hdBd 28 => whnf); (conv in hdSc 28 => whnf); exact ⟨rfl, trivial⟩⟩
noncomputable def hdO200 : { o : Obj // o = ⟨.type "function", none, .func (fnOf (.ofString "_law_parted") (.ofString "_law_parted") (hdPa 29) (hdBd 29) (hdSc 29) .none .none .none (.str (.ofString "law_pd0009_01") 386) none (.ref 199) .none), #[]⟩ ∧ True } :=
  ⟨_, by (conv in hdPa 29 => whnf); (conv in hdBd 29 => whnf); (conv in hdSc 29 => whnf); exact ⟨rfl, trivial⟩⟩
noncomputable def hdO207 : { o : Obj // o = ⟨.type "function", none, .func (fnOf (.ofString "_law_climbed") (.ofString "_law_climbed") (hdPa 30) (hdBd 30) (hdSc 30) .none .none .none (.str (.ofString "law_pd0009_01") 386) none (.ref 206) .none), #[]⟩ ∧ True } :=
  ⟨_, by (conv in hdPa 30 => whnf); (conv in hdBd 30 => whnf); (conv in hdSc 30 => whnf); exact ⟨rfl, trivial⟩⟩
noncomputable def hdK (P : Params) : Frag := [
  (nat_lit 2, ({ cls := Value.none, data := Data.dict #[] } : Obj)),
  (nat_lit 3, ({ cls := Value.type "dict", data := Data.dict #[{ hash := PyData.keyHash P (Str.ofString "__name__"), key := Value.str (Str.ofString "__name__") 165, val := Value.str (Str.ofString "law_pd0009_01") 386 }, { hash := PyData.keyHash P (Str.ofString "__doc__"), key := Value.str (Str.ofString "__doc__") 166, val := Value.none }, { hash := PyData.keyHash P (Str.ofString "__package__"), key := Value.str (Str.ofString "__package__") 167, val := Value.none }, { hash := PyData.keyHash P (Str.ofString "__loader__"), key := Value.str (Str.ofString "__loader__") 168, val := Value.builtin "__main__.__loader__#opaque" }, { hash := PyData.keyHash P (Str.ofString "__spec__"), key := Value.str (Str.ofString "__spec__") 169, val := Value.none }, { hash := PyData.keyHash P (Str.ofString "__annotations__"), key := Value.str (Str.ofString "__annotations__") 170, val := Value.ref 6 }, { hash := PyData.keyHash P (Str.ofString "__builtins__"), key := Value.str (Str.ofString "__builtins__") 171, val := Value.ref 4 }, { hash := PyData.keyHash P (Str.ofString "__file__"), key := Value.str (Str.ofString "__file__") 173, val := Value.str (Str.ofString "/claim/cut.py") 172 }, { hash := PyData.keyHash P (Str.ofString "__cached__"), key := Value.str (Str.ofString "__cached__") 174, val := Value.none }, { hash := PyData.keyHash P (Str.ofString "_wall"), key := Value.str (Str.ofString "_wall") 193, val := Value.ref 21 }, { hash := PyData.keyHash P (Str.ofString "_ctoi"), key := Value.str (Str.ofString "_ctoi") 202, val := Value.ref 28 }, { hash := PyData.keyHash P (Str.ofString "isprint"), key := Value.str (Str.ofString "isprint") 209, val := Value.ref 35 }, { hash := PyData.keyHash P (Str.ofString "unctrl"), key := Value.str (Str.ofString "unctrl") 218, val := Value.ref 42 }, { hash := PyData.keyHash P (Str.ofString "_plain_name"), key := Value.str (Str.ofString "_plain_name") 229, val := Value.ref 49 }, { hash := PyData.keyHash P (Str.ofString "ABCMeta"), key := Value.str (Str.ofString "ABCMeta") 255, val := Value.ref 66 }, { hash := PyData.keyHash P (Str.ofString "_ABCLike"), key := Value.str (Str.ofString "_ABCLike") 298, val := Value.ref 99 }, { hash := PyData.keyHash P (Str.ofString "_abc_plain_meta"), key := Value.str (Str.ofString "_abc_plain_meta") 305, val := Value.ref 108 }, { hash := PyData.keyHash P (Str.ofString "fspath"), key := Value.str (Str.ofString "fspath") 317, val := Value.ref 115 }, { hash := PyData.keyHash P (Str.ofString "_check_arg_types"), key := Value.str (Str.ofString "_check_arg_types") 330, val := Value.ref 122 }, { hash := PyData.keyHash P (Str.ofString "_get_sep"), key := Value.str (Str.ofString "_get_sep") 339, val := Value.ref 129 }, { hash := PyData.keyHash P (Str.ofString "join"), key := Value.str (Str.ofString "join") 350, val := Value.ref 136 }, { hash := PyData.keyHash P (Str.ofString "split"), key := Value.str (Str.ofString "split") 361, val := Value.ref 143 }, { hash := PyData.keyHash P (Str.ofString "splitroot"), key := Value.str (Str.ofString "splitroot") 370, val := Value.ref 150 }, { hash := PyData.keyHash P (Str.ofString "normpath"), key := Value.str (Str.ofString "normpath") 385, val := Value.ref 157 }, { hash := PyData.keyHash P (Str.ofString "_law_parts"), key := Value.str (Str.ofString "_law_parts") 396, val := Value.ref 164 }, { hash := PyData.keyHash P (Str.ofString "_law_meant"), key := Value.str (Str.ofString "_law_meant") 405, val := Value.ref 171 }, { hash := PyData.keyHash P (Str.ofString "_law_shown"), key := Value.str (Str.ofString "_law_shown") 411, val := Value.ref 176 }, { hash := PyData.keyHash P (Str.ofString "_law_drawn"), key := Value.str (Str.ofString "_law_drawn") 420, val := Value.ref 183 }, { hash := PyData.keyHash P (Str.ofString "_law_cut"), key := Value.str (Str.ofString "_law_cut") 429, val := Value.ref 190 }, { hash := PyData.keyHash P (Str.ofString "_law_straight"), key := Value.str (Str.ofString "_law_straight") 435, val := Value.ref 195 }, { hash := PyData.keyHash P (Str.ofString "_law_parted"), key := Value.str (Str.ofString "_law_parted") 441, val := Value.ref 200 }, { hash := PyData.keyHash P (Str.ofString "_law_climbed"), key := Value.str (Str.ofString "_law_climbed") 451, val := Value.ref 207 }, { hash := PyData.keyHash P (Str.ofString "law"), key := Value.str (Str.ofString "law") 457, val := Value.ref 212 }] 33 } : Obj)),
  (nat_lit 27, ({ cls := Value.type "code", data := Data.fields #[Value.str (Str.ofString "_ctoi") 196, Value.str (Str.ofString "_ctoi") 197, Value.str (Str.ofString "/claim/cut.py") 198, Value.int 5 0, Value.int 1 0, Value.int 0 0, Value.int 0 0, Value.int 3 0, Value.ref 22, Value.bool true, Value.int 181 0, Value.ref 23, Value.none, Value.ref 24, Value.ref 25, Value.ref 26, Value.int 200 0, Value.int 5 0, Value.str (Str.ofString "/claim/cut.py") 201] } : Obj)),
  (nat_lit 28, hdO28.1),
  (nat_lit 34, ({ cls := Value.type "code", data := Data.fields #[Value.str (Str.ofString "isprint") 203, Value.str (Str.ofString "isprint") 204, Value.str (Str.ofString "/claim/cut.py") 205, Value.int 10 0, Value.int 1 0, Value.int 0 0, Value.int 0 0, Value.int 3 0, Value.ref 29, Value.bool true, Value.int 181 0, Value.ref 30, Value.none, Value.ref 31, Value.ref 32, Value.ref 33, Value.int 207 0, Value.int 10 0, Value.str (Str.ofString "/claim/cut.py") 208] } : Obj)),
  (nat_lit 35, hdO35.1),
  (nat_lit 41, ({ cls := Value.type "code", data := Data.fields #[Value.str (Str.ofString "unctrl") 210, Value.str (Str.ofString "unctrl") 211, Value.str (Str.ofString "/claim/cut.py") 212, Value.int 12 0, Value.int 1 0, Value.int 0 0, Value.int 0 0, Value.int 3 0, Value.ref 36, Value.bool true, Value.int 181 0, Value.ref 37, Value.none, Value.ref 38, Value.ref 39, Value.ref 40, Value.int 216 0, Value.int 12 0, Value.str (Str.ofString "/claim/cut.py") 217] } : Obj)),
  (nat_lit 42, hdO42.1),
  (nat_lit 114, ({ cls := Value.type "code", data := Data.fields #[Value.str (Str.ofString "fspath") 308, Value.str (Str.ofString "fspath") 309, Value.str (Str.ofString "/claim/cut.py") 310, Value.int 54 0, Value.int 1 0, Value.int 0 0, Value.int 0 0, Value.int 3 0, Value.ref 109, Value.bool true, Value.int 181 0, Value.ref 110, Value.none, Value.ref 111, Value.ref 112, Value.ref 113, Value.int 315 0, Value.int 54 0, Value.str (Str.ofString "/claim/cut.py") 316] } : Obj)),
  (nat_lit 115, hdO115.1),
  (nat_lit 121, ({ cls := Value.type "code", data := Data.fields #[Value.str (Str.ofString "_check_arg_types") 320, Value.str (Str.ofString "_check_arg_types") 321, Value.str (Str.ofString "/claim/cut.py") 322, Value.int 71 0, Value.int 1 0, Value.int 0 0, Value.int 0 0, Value.int 7 0, Value.ref 116, Value.bool true, Value.int 181 0, Value.ref 117, Value.none, Value.ref 118, Value.ref 119, Value.ref 120, Value.int 328 0, Value.int 71 0, Value.str (Str.ofString "/claim/cut.py") 329] } : Obj)),
  (nat_lit 122, hdO122.1),
  (nat_lit 128, ({ cls := Value.type "code", data := Data.fields #[Value.str (Str.ofString "_get_sep") 333, Value.str (Str.ofString "_get_sep") 334, Value.str (Str.ofString "/claim/cut.py") 335, Value.int 83 0, Value.int 1 0, Value.int 0 0, Value.int 0 0, Value.int 3 0, Value.ref 123, Value.bool true, Value.int 181 0, Value.ref 124, Value.none, Value.ref 125, Value.ref 126, Value.ref 127, Value.int 337 0, Value.int 83 0, Value.str (Str.ofString "/claim/cut.py") 338] } : Obj)),
  (nat_lit 129, hdO129.1),
  (nat_lit 135, ({ cls := Value.type "code", data := Data.fields #[Value.str (Str.ofString "join") 340, Value.str (Str.ofString "join") 341, Value.str (Str.ofString "/claim/cut.py") 342, Value.int 88 0, Value.int 1 0, Value.int 0 0, Value.int 0 0, Value.int 7 0, Value.ref 130, Value.bool true, Value.int 181 0, Value.ref 131, Value.none, Value.ref 132, Value.ref 133, Value.ref 134, Value.int 348 0, Value.int 88 0, Value.str (Str.ofString "/claim/cut.py") 349] } : Obj)),
  (nat_lit 136, hdO136.1),
  (nat_lit 142, ({ cls := Value.type "code", data := Data.fields #[Value.str (Str.ofString "split") 351, Value.str (Str.ofString "split") 352, Value.str (Str.ofString "/claim/cut.py") 353, Value.int 105 0, Value.int 1 0, Value.int 0 0, Value.int 0 0, Value.int 3 0, Value.ref 137, Value.bool true, Value.int 181 0, Value.ref 138, Value.none, Value.ref 139, Value.ref 140, Value.ref 141, Value.int 359 0, Value.int 105 0, Value.str (Str.ofString "/claim/cut.py") 360] } : Obj)),
  (nat_lit 143, hdO143.1),
  (nat_lit 149, ({ cls := Value.type "code", data := Data.fields #[Value.str (Str.ofString "splitroot") 362, Value.str (Str.ofString "splitroot") 363, Value.str (Str.ofString "/claim/cut.py") 364, Value.int 113 0, Value.int 1 0, Value.int 0 0, Value.int 0 0, Value.int 3 0, Value.ref 144, Value.bool true, Value.int 181 0, Value.ref 145, Value.none, Value.ref 146, Value.ref 147, Value.ref 148, Value.int 368 0, Value.int 113 0, Value.str (Str.ofString "/claim/cut.py") 369] } : Obj)),
  (nat_lit 150, hdO150.1),
  (nat_lit 156, ({ cls := Value.type "code", data := Data.fields #[Value.str (Str.ofString "normpath") 371, Value.str (Str.ofString "normpath") 372, Value.str (Str.ofString "/claim/cut.py") 373, Value.int 127 0, Value.int 1 0, Value.int 0 0, Value.int 0 0, Value.int 3 0, Value.ref 151, Value.bool true, Value.int 181 0, Value.ref 152, Value.none, Value.ref 153, Value.ref 154, Value.ref 155, Value.int 383 0, Value.int 127 0, Value.str (Str.ofString "/claim/cut.py") 384] } : Obj)),
  (nat_lit 157, hdO157.1),
  (nat_lit 163, ({ cls := Value.type "code", data := Data.fields #[Value.str (Str.ofString "_law_parts") 388, Value.str (Str.ofString "_law_parts") 389, Value.str (Str.ofString "/claim/cut.py") 390, Value.int 153 0, Value.int 1 0, Value.int 0 0, Value.int 0 0, Value.int 3 0, Value.ref 158, Value.bool true, Value.int 181 0, Value.ref 159, Value.none, Value.ref 160, Value.ref 161, Value.ref 162, Value.int 394 0, Value.int 153 0, Value.str (Str.ofString "/claim/cut.py") 395] } : Obj)),
  (nat_lit 164, hdO164.1),
  (nat_lit 170, ({ cls := Value.type "code", data := Data.fields #[Value.str (Str.ofString "_law_meant") 397, Value.str (Str.ofString "_law_meant") 398, Value.str (Str.ofString "/claim/cut.py") 399, Value.int 161 0, Value.int 1 0, Value.int 0 0, Value.int 0 0, Value.int 3 0, Value.ref 165, Value.bool true, Value.int 181 0, Value.ref 166, Value.none, Value.ref 167, Value.ref 168, Value.ref 169, Value.int 403 0, Value.int 161 0, Value.str (Str.ofString "/claim/cut.py") 404] } : Obj)),
  (nat_lit 171, hdO171.1),
  (nat_lit 175, ({ cls := Value.type "code", data := Data.fields #[Value.str (Str.ofString "_law_shown") 406, Value.str (Str.ofString "_law_shown") 407, Value.str (Str.ofString "/claim/cut.py") 408, Value.int 166 0, Value.int 1 0, Value.int 0 0, Value.int 0 0, Value.int 3 0, Value.ref 172, Value.bool true, Value.int 181 0, Value.ref 173, Value.none, Value.none, Value.none, Value.ref 174, Value.int 409 0, Value.int 166 0, Value.str (Str.ofString "/claim/cut.py") 410] } : Obj)),
  (nat_lit 176, hdO176.1),
  (nat_lit 182, ({ cls := Value.type "code", data := Data.fields #[Value.str (Str.ofString "_law_drawn") 412, Value.str (Str.ofString "_law_drawn") 413, Value.str (Str.ofString "/claim/cut.py") 414, Value.int 168 0, Value.int 1 0, Value.int 0 0, Value.int 0 0, Value.int 3 0, Value.ref 177, Value.bool true, Value.int 181 0, Value.ref 178, Value.none, Value.ref 179, Value.ref 180, Value.ref 181, Value.int 418 0, Value.int 168 0, Value.str (Str.ofString "/claim/cut.py") 419] } : Obj)),
  (nat_lit 183, hdO183.1),
  (nat_lit 189, ({ cls := Value.type "code", data := Data.fields #[Value.str (Str.ofString "_law_cut") 421, Value.str (Str.ofString "_law_cut") 422, Value.str (Str.ofString "/claim/cut.py") 423, Value.int 182 0, Value.int 1 0, Value.int 0 0, Value.int 0 0, Value.int 3 0, Value.ref 184, Value.bool true, Value.int 181 0, Value.ref 185, Value.none, Value.ref 186, Value.ref 187, Value.ref 188, Value.int 427 0, Value.int 182 0, Value.str (Str.ofString "/claim/cut.py") 428] } : Obj)),
  (nat_lit 190, hdO190.1),
  (nat_lit 194, ({ cls := Value.type "code", data := Data.fields #[Value.str (Str.ofString "_law_straight") 430, Value.str (Str.ofString "_law_straight") 431, Value.str (Str.ofString "/claim/cut.py") 432, Value.int 190 0, Value.int 1 0, Value.int 0 0, Value.int 0 0, Value.int 3 0, Value.ref 191, Value.bool true, Value.int 181 0, Value.ref 192, Value.none, Value.none, Value.none, Value.ref 193, Value.int 433 0, Value.int 190 0, Value.str (Str.ofString "/claim/cut.py") 434] } : Obj)),
  (nat_lit 195, hdO195.1),
  (nat_lit 199, ({ cls := Value.type "code", data := Data.fields #[Value.str (Str.ofString "_law_parted") 436, Value.str (Str.ofString "_law_parted") 437, Value.str (Str.ofString "/claim/cut.py") 438, Value.int 207 0, Value.int 1 0, Value.int 0 0, Value.int 0 0, Value.int 3 0, Value.ref 196, Value.bool true, Value.int 181 0, Value.ref 197, Value.none, Value.none, Value.none, Value.ref 198, Value.int 439 0, Value.int 207 0, Value.str (Str.ofString "/claim/cut.py") 440] } : Obj)),
  (nat_lit 200, hdO200.1),
  (nat_lit 206, ({ cls := Value.type "code", data := Data.fields #[Value.str (Str.ofString "_law_climbed") 442, Value.str (Str.ofString "_law_climbed") 443, Value.str (Str.ofString "/claim/cut.py") 444, Value.int 211 0, Value.int 1 0, Value.int 0 0, Value.int 0 0, Value.int 3 0, Value.ref 201, Value.bool true, Value.int 181 0, Value.ref 202, Value.none, Value.ref 203, Value.ref 204, Value.ref 205, Value.int 449 0, Value.int 211 0, Value.str (Str.ofString "/claim/cut.py") 450] } : Obj)),
  (nat_lit 207, hdO207.1)]
noncomputable def hdH : Hook := kHook hdK [2, 3, 27, 28, 34, 35, 41, 42, 114, 115, 121, 122, 128, 129, 135, 136, 142, 143, 149, 150, 156, 157, 163, 164, 170, 171, 175, 176, 182, 183, 189, 190, 194, 195, 199, 200, 206, 207] (fun _ => by kernel_rfl)
noncomputable def hdV : Program := { PySem.Challenge.pw_pd0009_01 with main := { PySem.Challenge.pw_pd0009_01.main with body := PySem.Challenge.pw_pd0009_01.main.body.drop 31 } }
def hdLoose : List Str := [.ofString "_wall", .ofString "_ctoi", .ofString "isprint", .ofString "unctrl", .ofString "_plain_name", .ofString "ABCMeta", .ofString "_ABCLike", .ofString "_abc_plain_meta", .ofString "fspath", .ofString "_check_arg_types", .ofString "_get_sep", .ofString "join", .ofString "split", .ofString "splitroot", .ofString "normpath", .ofString "_law_parts", .ofString "_law_meant", .ofString "_law_shown", .ofString "_law_drawn", .ofString "_law_cut", .ofString "_law_straight", .ofString "_law_parted", .ofString "_law_climbed"]
theorem hdSaid : (PySem.Challenge.rw_pd0009_01).wellSaid = true := by rw [PySem.W.Fast.te9446332074065402090]; kernel_rfl
theorem hdLeft : LeftO (PySem.Challenge.rw_pd0009_01.row.toRowW.prog) hdV hdLoose (fun s => xlAt hdV [] s && recOk (RowW.records PySem.Challenge.rw_pd0009_01.row.toRowW) s) hdH.obs hdH.val 2638 := by
  intro w
  rw [PySem.W.Fast.te14364793385576792824, PySem.W.Fast.te4187177175401517315, PySem.W.Fast.te5923862056798008813]
  kernel_rfl

noncomputable abbrev KK (w : World) : Frag := Mine.hdK w.params
set_option maxRecDepth 100000 in
theorem gl_ctoi (w : World) : nsIn (KK w) mainGlobals (Str.ofString "_ctoi") = some (some (.ref 28)) := by kernel_rfl
set_option maxRecDepth 100000 in
theorem keep_ctoi (w : World) : keepIn (KK w) (.ref 28) = true := by kernel_rfl
set_option maxRecDepth 100000 in
theorem gl_isprint (w : World) : nsIn (KK w) mainGlobals (Str.ofString "isprint") = some (some (.ref 35)) := by kernel_rfl
set_option maxRecDepth 100000 in
theorem keep_isprint (w : World) : keepIn (KK w) (.ref 35) = true := by kernel_rfl
set_option maxRecDepth 100000 in
theorem gl_unctrl (w : World) : nsIn (KK w) mainGlobals (Str.ofString "unctrl") = some (some (.ref 42)) := by kernel_rfl
set_option maxRecDepth 100000 in
theorem keep_unctrl (w : World) : keepIn (KK w) (.ref 42) = true := by kernel_rfl
set_option maxRecDepth 100000 in
theorem gl_fspath (w : World) : nsIn (KK w) mainGlobals (Str.ofString "fspath") = some (some (.ref 115)) := by kernel_rfl
set_option maxRecDepth 100000 in
theorem keep_fspath (w : World) : keepIn (KK w) (.ref 115) = true := by kernel_rfl
set_option maxRecDepth 100000 in
theorem gl_check_arg_types (w : World) : nsIn (KK w) mainGlobals (Str.ofString "_check_arg_types") = some (some (.ref 122)) := by kernel_rfl
set_option maxRecDepth 100000 in
theorem keep_check_arg_types (w : World) : keepIn (KK w) (.ref 122) = true := by kernel_rfl
set_option maxRecDepth 100000 in
theorem gl_get_sep (w : World) : nsIn (KK w) mainGlobals (Str.ofString "_get_sep") = some (some (.ref 129)) := by kernel_rfl
set_option maxRecDepth 100000 in
theorem keep_get_sep (w : World) : keepIn (KK w) (.ref 129) = true := by kernel_rfl
set_option maxRecDepth 100000 in
theorem gl_join (w : World) : nsIn (KK w) mainGlobals (Str.ofString "join") = some (some (.ref 136)) := by kernel_rfl
set_option maxRecDepth 100000 in
theorem keep_join (w : World) : keepIn (KK w) (.ref 136) = true := by kernel_rfl
set_option maxRecDepth 100000 in
theorem gl_split (w : World) : nsIn (KK w) mainGlobals (Str.ofString "split") = some (some (.ref 143)) := by kernel_rfl
set_option maxRecDepth 100000 in
theorem keep_split (w : World) : keepIn (KK w) (.ref 143) = true := by kernel_rfl
set_option maxRecDepth 100000 in
theorem gl_splitroot (w : World) : nsIn (KK w) mainGlobals (Str.ofString "splitroot") = some (some (.ref 150)) := by kernel_rfl
set_option maxRecDepth 100000 in
theorem keep_splitroot (w : World) : keepIn (KK w) (.ref 150) = true := by kernel_rfl
set_option maxRecDepth 100000 in
theorem gl_normpath (w : World) : nsIn (KK w) mainGlobals (Str.ofString "normpath") = some (some (.ref 157)) := by kernel_rfl
set_option maxRecDepth 100000 in
theorem keep_normpath (w : World) : keepIn (KK w) (.ref 157) = true := by kernel_rfl
set_option maxRecDepth 100000 in
theorem gl_law_parts (w : World) : nsIn (KK w) mainGlobals (Str.ofString "_law_parts") = some (some (.ref 164)) := by kernel_rfl
set_option maxRecDepth 100000 in
theorem keep_law_parts (w : World) : keepIn (KK w) (.ref 164) = true := by kernel_rfl
set_option maxRecDepth 100000 in
theorem gl_law_meant (w : World) : nsIn (KK w) mainGlobals (Str.ofString "_law_meant") = some (some (.ref 171)) := by kernel_rfl
set_option maxRecDepth 100000 in
theorem keep_law_meant (w : World) : keepIn (KK w) (.ref 171) = true := by kernel_rfl
set_option maxRecDepth 100000 in
theorem gl_law_shown (w : World) : nsIn (KK w) mainGlobals (Str.ofString "_law_shown") = some (some (.ref 176)) := by kernel_rfl
set_option maxRecDepth 100000 in
theorem keep_law_shown (w : World) : keepIn (KK w) (.ref 176) = true := by kernel_rfl
set_option maxRecDepth 100000 in
theorem gl_law_drawn (w : World) : nsIn (KK w) mainGlobals (Str.ofString "_law_drawn") = some (some (.ref 183)) := by kernel_rfl
set_option maxRecDepth 100000 in
theorem keep_law_drawn (w : World) : keepIn (KK w) (.ref 183) = true := by kernel_rfl
set_option maxRecDepth 100000 in
theorem gl_law_cut (w : World) : nsIn (KK w) mainGlobals (Str.ofString "_law_cut") = some (some (.ref 190)) := by kernel_rfl
set_option maxRecDepth 100000 in
theorem keep_law_cut (w : World) : keepIn (KK w) (.ref 190) = true := by kernel_rfl
set_option maxRecDepth 100000 in
theorem gl_law_straight (w : World) : nsIn (KK w) mainGlobals (Str.ofString "_law_straight") = some (some (.ref 195)) := by kernel_rfl
set_option maxRecDepth 100000 in
theorem keep_law_straight (w : World) : keepIn (KK w) (.ref 195) = true := by kernel_rfl
set_option maxRecDepth 100000 in
theorem gl_law_parted (w : World) : nsIn (KK w) mainGlobals (Str.ofString "_law_parted") = some (some (.ref 200)) := by kernel_rfl
set_option maxRecDepth 100000 in
theorem keep_law_parted (w : World) : keepIn (KK w) (.ref 200) = true := by kernel_rfl
set_option maxRecDepth 100000 in
theorem gl_law_climbed (w : World) : nsIn (KK w) mainGlobals (Str.ofString "_law_climbed") = some (some (.ref 207)) := by kernel_rfl
set_option maxRecDepth 100000 in
theorem keep_law_climbed (w : World) : keepIn (KK w) (.ref 207) = true := by kernel_rfl
set_option maxRecDepth 100000 in
theorem nog_isinstance (w : World) : nsIn (KK w) mainGlobals (Str.ofString "isinstance") = some none := by kernel_rfl
set_option maxRecDepth 100000 in
theorem bi_isinstance : bootBuiltins (Str.ofString "isinstance") = some (.builtin "isinstance") := by kernel_rfl
set_option maxRecDepth 100000 in
theorem nog_str (w : World) : nsIn (KK w) mainGlobals (Str.ofString "str") = some none := by kernel_rfl
set_option maxRecDepth 100000 in
theorem bi_str : bootBuiltins (Str.ofString "str") = some (.type "str") := by kernel_rfl
set_option maxRecDepth 100000 in
theorem nog_ord (w : World) : nsIn (KK w) mainGlobals (Str.ofString "ord") = some none := by kernel_rfl
set_option maxRecDepth 100000 in
theorem bi_ord : bootBuiltins (Str.ofString "ord") = some (.builtin "ord") := by kernel_rfl
set_option maxRecDepth 100000 in
theorem nog_chr (w : World) : nsIn (KK w) mainGlobals (Str.ofString "chr") = some none := by kernel_rfl
set_option maxRecDepth 100000 in
theorem bi_chr : bootBuiltins (Str.ofString "chr") = some (.builtin "chr") := by kernel_rfl
set_option maxRecDepth 100000 in
theorem nog_type (w : World) : nsIn (KK w) mainGlobals (Str.ofString "type") = some none := by kernel_rfl
set_option maxRecDepth 100000 in
theorem bi_type : bootBuiltins (Str.ofString "type") = some (.type "type") := by kernel_rfl
set_option maxRecDepth 100000 in
theorem nog_issubclass (w : World) : nsIn (KK w) mainGlobals (Str.ofString "issubclass") = some none := by kernel_rfl
set_option maxRecDepth 100000 in
theorem bi_issubclass : bootBuiltins (Str.ofString "issubclass") = some (.builtin "issubclass") := by kernel_rfl
set_option maxRecDepth 100000 in
theorem nog_bytes (w : World) : nsIn (KK w) mainGlobals (Str.ofString "bytes") = some none := by kernel_rfl
set_option maxRecDepth 100000 in
theorem bi_bytes : bootBuiltins (Str.ofString "bytes") = some (.type "bytes") := by kernel_rfl
set_option maxRecDepth 100000 in
theorem nog_len (w : World) : nsIn (KK w) mainGlobals (Str.ofString "len") = some none := by kernel_rfl
set_option maxRecDepth 100000 in
theorem bi_len : bootBuiltins (Str.ofString "len") = some (.builtin "len") := by kernel_rfl
set_option maxRecDepth 100000 in
theorem nog_max (w : World) : nsIn (KK w) mainGlobals (Str.ofString "max") = some none := by kernel_rfl
set_option maxRecDepth 100000 in
theorem bi_max : bootBuiltins (Str.ofString "max") = some (.builtin "max") := by kernel_rfl
set_option maxRecDepth 100000 in
theorem nog_min (w : World) : nsIn (KK w) mainGlobals (Str.ofString "min") = some none := by kernel_rfl
set_option maxRecDepth 100000 in
theorem bi_min : bootBuiltins (Str.ofString "min") = some (.builtin "min") := by kernel_rfl
set_option maxRecDepth 100000 in
theorem nog_range (w : World) : nsIn (KK w) mainGlobals (Str.ofString "range") = some none := by kernel_rfl
set_option maxRecDepth 100000 in
theorem bi_range : bootBuiltins (Str.ofString "range") = some (.type "range") := by kernel_rfl
set_option maxRecDepth 100000 in
theorem nog_int (w : World) : nsIn (KK w) mainGlobals (Str.ofString "int") = some none := by kernel_rfl
set_option maxRecDepth 100000 in
theorem bi_int : bootBuiltins (Str.ofString "int") = some (.type "int") := by kernel_rfl
theorem iteF {a b : Prop} (h : b) : if false = true then a else b := by simpa using h
theorem iteT {a b : Prop} (h : a) : if true = true then a else b := by simpa using h
theorem iteB {c : Bool} {a b : Prop} (h1 : c = true → a) (h2 : c = false → b) : if c = true then a else b := by cases c <;> simp_all
structure Amb (K : Frag) (mg mb : Str → Option Value) (z : Heap) : Prop where
  kin : K.In z
  g : z.Ns mainGlobals mg
  b : z.Ns builtinsNs mb
  boot : ∀ x : Str, x ≠ "__name__" → mb x = bootBuiltins x
  lim : z.NoLimit
theorem Amb.mono {K : Frag} {mg mb : Str → Option Value} {z z' : Heap} (x : Amb K mg mb z) (k : z.StaysIn z') : Amb K mg mb z' :=
  ⟨x.kin.keeps k, x.g.keeps k, x.b.keeps k, x.boot, x.lim.keeps k⟩

section
variable {prog : Program} {w : World} {A : Around} {E : Value → Shared → Prop} {s : Shared} {env : Env} {lo : Nat} {z₀ hc z : Heap} {L : Addr} {m mg mb : Str → Option Value} {ms : List (Addr × Obj)} {K : Frag}

theorem zGlob {M : Model} {x : Str} {pos : Pos} {v : Value} {Q : Value → Shared → Prop} (Am : Amb K mg mb z) (hz : z.StaysIn s.heap) (e : nsIn K mainGlobals x = some (some v)) (h : Q v s)
    (hg : env.globals = mainGlobals := by rfl) (hk : env.scope.kind = .function := by rfl) (hx : env.kindOf x = some .globalImplicit := by rfl) (hd : (x == ("__debug__" : Str)) = false := by decide) :
    wpAny M A (eval (.Name x pos) env) Q E s :=
  Name_function_global hk hx (loadGlobal_global (by rw [hg]; exact Am.g.keeps hz) (mg_of Am.kin Am.g e) h) hd
theorem zBoot {M : Model} {x : Str} {pos : Pos} {v : Value} {Q : Value → Shared → Prop} (Am : Amb K mg mb z) (hz : z.StaysIn s.heap) (e : nsIn K mainGlobals x = some none) (hv : bootBuiltins x = some v) (h : Q v s)
    (hg : env.globals = mainGlobals := by rfl) (hb : env.builtins = builtinsNs := by rfl) (hk : env.scope.kind = .function := by rfl) (hx : env.kindOf x = some .globalImplicit := by rfl) (hn : x ≠ "__name__" := by decide) (hd : (x == ("__debug__" : Str)) = false := by decide) :
    wpAny M A (eval (.Name x pos) env) Q E s :=
  Name_function_global hk hx (loadGlobal_builtin (by rw [hg]; exact Am.g.keeps hz) (mg_none_of Am.kin Am.g e) (by rw [hb]; exact Am.b.keeps hz) ((Am.boot x hn).trans hv) h) hd

theorem zDef {f : Addr} {n : Nat} {args : List Value} {name qual : Str} {params : Arguments} {body : List Stmt} {scope : Scope} {dV kV doc pm cdv ct oc : Value} {an od : Option Addr} {osl : Array (Option Value)} {binds : List (Str × Value)} {Q : Value → Shared → Prop}
    (Am : Amb K mg mb z) (hz : z.StaysIn s.heap) (hA : Rm A (n + 1))
    (ho : K.lookup f = some ⟨oc, od, .func (fnOf name qual params body scope dV kV doc pm an cdv ct), osl⟩) (hcd : codeIn K cdv qual = true)
    (hbind : bindArgs (fnOf name qual params body scope dV kV doc pm an cdv ct) ⟨args, []⟩ = pure binds)
    (hloc : (binds.all fun x => decide (scope.names.lookup x.1 = some .local)) = true)
    (h : ∀ L s₁ E' A', Fz s.heap.objs.size z s.heap z L (fun y => binds.reverse.lookup y) [] s₁.heap → Like s s₁ → Rm A' n →
      wpAny (model prog w) A' (execs body (envOf qual scope L f cdv)) (fun fl s' => Q (match fl with | .ret v => v | _ => .none) s') E' s₁)
    (hco : scope.isCoroutine = false := by rfl) (hgen : scope.isGenerator = false := by rfl) (hk : scope.kind = .function := by rfl)
    (hcell : ∀ x ∈ scope.names, x.2 ≠ .cell := by decide) : wpAny (model prog w) A (call (.ref f) args) Q E s := by
  refine wpAny_call (codeAny_call_def (fd := fnOf name qual params body scope dV kV doc pm an cdv ct) (body := body) (binds := binds) hA.room (hz _ _ (Am.kin _ _ ho)) rfl (Am.lim.keeps hz)
    ((codeRec_of Am.kin hcd).keeps hz) rfl (BindsTo.of_eq hbind) hcell (locs hloc) (fun h₁ hns hk₁ => ?_) hco hgen hk)
  have F : Fz s.heap.objs.size z s.heap z s.heap.objs.size (fun y => binds.reverse.lookup y) [] h₁ :=
    ⟨hns, stays_trans hz hk₁, hk₁, Nat.le_of_lt hns.lt, stays_refl _, fun _ _ e => .inr e, hz.fresh, get_none_ge (Nat.le_refl _), (fun _ hp => by cases hp), List.nodup_nil⟩
  exact wpAny_mono (h _ _ _ _ F ⟨rfl, rfl, rfl⟩ (hA.deeper _)) (fun fl s' q => q) fun _ _ y => y

theorem zSplice_nil {M : Model} {pos : Pos} {Q : List Value → Shared → Prop} (h : Q [] s) : wpAny M A (spliced (backTo pos (starEach [] env))) Q E s := spliced_nil h
theorem zSplice_cons {M : Model} {pos : Pos} {e : Expr} {rest : List Expr} {Q : List Value → Shared → Prop}
    (h : wpAny M A (eval e env) (fun v s₁ => wpAny M A (spliced (backTo pos (starEach rest env))) (fun vs s₂ => Q (v :: vs) s₂) E s₁) E s)
    (he : starEach (e :: rest) env = (false, eval e env) :: starEach rest env := by rfl) : wpAny M A (spliced (backTo pos (starEach (e :: rest) env))) Q E s := by
  rw [he]; exact spliced_cons h

theorem zCallW {M : Model} {pos : Pos} {f : Addr} {e : Expr} {rest : List Expr} {Q : Value → Shared → Prop} (_Am : Amb K mg mb z) (hk : keepIn K (.ref f) = true)
    (h : wpAny M A (spliced (backTo pos (starEach (e :: rest) env))) (fun vs s₁ => K.In s₁.heap ∧ wpAny M A (call (.ref f) vs) Q E s₁) E s)
    (he : starEach (e :: rest) env = (false, eval e env) :: starEach rest env := by rfl) (hplain : (backTo pos (starEach rest env)).any (·.1) = false := by rfl) :
    wpAny M A (callWith pos (.ref f) [] (backTo pos (starEach (e :: rest) env)) []) Q E s := by
  rw [he] at h ⊢
  exact callWith_of (by show ((false || (backTo pos (starEach rest env)).any (·.1)) || false) = false; rw [hplain]; rfl) (keeps_K hk) (evalArgs_plain h)
theorem zCell {M : Model} {zz : Heap} {c : Addr} {x : Str} {pos : Pos} {v : Value} {Q : Value → Shared → Prop} (hv : zz.IsCell c (some v)) (hz : zz.StaysIn s.heap) (h : Q v s)
    (hk : env.scope.kind = .function := by rfl) (hl : env.kindOf x = some .cell := by rfl) (hc : env.cells.lookup x = some c := by rfl) (hd : (x == ("__debug__" : Str)) = false := by decide) : wpAny M A (eval (.Name x pos) env) Q E s :=
  wpAny_Name (wpAny_loadName_cell hk hl hc (hv.keeps hz) h) hd
end

local macro_rules | `(tactic| walk_at "mlook") => `(tactic| first | exact upd_same | (refine upd_ne (by decide) ?_; walk_at "mlook") | assumption | exact rfl)
local macro_rules | `(tactic| walk_at "zgl") => `(tactic| with_reducible first | exact gl_ctoi _ | exact gl_isprint _ | exact gl_unctrl _ | exact gl_fspath _ | exact gl_check_arg_types _ | exact gl_get_sep _ | exact gl_join _ | exact gl_split _ | exact gl_splitroot _ | exact gl_normpath _ | exact gl_law_parts _ | exact gl_law_meant _ | exact gl_law_shown _ | exact gl_law_drawn _ | exact gl_law_cut _ | exact gl_law_straight _ | exact gl_law_parted _ | exact gl_law_climbed _)
local macro_rules | `(tactic| walk_at "znb") => `(tactic| with_reducible first | exact nog_isinstance _ | exact nog_str _ | exact nog_ord _ | exact nog_chr _ | exact nog_type _ | exact nog_issubclass _ | exact nog_bytes _ | exact nog_len _ | exact nog_max _ | exact nog_min _ | exact nog_range _ | exact nog_int _)
local macro_rules | `(tactic| walk_at "zbb") => `(tactic| with_reducible first | exact bi_isinstance | exact bi_str | exact bi_ord | exact bi_chr | exact bi_type | exact bi_issubclass | exact bi_bytes | exact bi_len | exact bi_max | exact bi_min | exact bi_range | exact bi_int)
local macro_rules | `(tactic| walk_at "zname") => `(tactic| first
  | refine zGlob (by assumption) (Fz.keep (by assumption)) (by walk_at "zgl") ?_
  | refine zBoot (by assumption) (Fz.keep (by assumption)) (by walk_at "znb") (by walk_at "zbb") ?_
  | refine zLocal (by assumption) (by walk_at "mlook") ?_
  | refine zCell (by assumption) (Fz.keep (by assumption)) ?_)
local macro_rules | `(tactic| walk_at "zeval") => `(tactic| first
  | with_reducible refine wpAny_Constant_int ?_
  | with_reducible refine Calls.Constant_str ?_
  | with_reducible refine Constant_bytes ?_
  | with_reducible refine Constant_bool ?_
  | ((with_reducible show wpAny _ _ (eval (Expr.Name _ _) _) _ _ _); walk_at "zname")
  | with_reducible refine wpAny_BinOp ?_
  | ((with_reducible show wpAny _ _ (eval (Expr.Compare _ [_] [_] _) _) _ _ _); refine wpAny_Compare1 ?_)
  | ((with_reducible show wpAny _ _ (eval (Expr.Compare _ (_ :: _ :: _) _ _) _) _ _ _); refine Compare_chain ?_)
  | with_reducible refine IfExp_ ?_
  | with_reducible refine BoolOp_one ?_
  | with_reducible refine BoolOp_and ?_
  | with_reducible refine BoolOp_or ?_
  | ((with_reducible show wpAny _ _ (eval (Expr.Call (Expr.Attribute _ _ _) _ _ _) _) _ _ _); refine MethodCall_ ?_)
  | ((with_reducible show wpAny _ _ (eval (Expr.Call _ _ _ _) _) _ _ _); refine Call_ ?_)
  | with_reducible refine wpAny_Slice ?_
  | with_reducible refine List_ ?_
  | with_reducible refine Tuple_ ?_
  | with_reducible refine Subscript_ ?_
  | with_reducible refine UnaryOp_ ?_)
local macro_rules | `(tactic| walk_at "zexec") => `(tactic| first
  | with_reducible refine wpAny_If ?_
  | ((with_reducible show wpAny _ _ (exec (Stmt.Assign [Expr.Name _ _] _ _) _) _ _ _); refine wpAny_Assign_Name ?_)
  | with_reducible refine wpAny_AugAssign_Name ?_
  | with_reducible refine wpAny_Return_some ?_
  | with_reducible refine wpAny_Continue ?_
  | ((with_reducible show wpAny _ _ (exec (Stmt.Assign [Expr.Subscript _ _ _] _ _) _) _ _ _); refine wpAny_Assign_Subscript ?_)
  | ((with_reducible show wpAny _ _ (exec (Stmt.Assign [Expr.Tuple _ _ _] (Expr.Tuple _ _ _) _) _) _ _ _); refine Assign_Tuple_swapped ?_)
  | ((with_reducible show wpAny _ _ (exec (Stmt.Assign [Expr.Tuple _ _ _] _ _) _) _ _ _); refine Assign_Tuple ?_)
  | ((with_reducible show wpAny _ _ (exec (Stmt.Expr _ _) _) _ _ _); refine wpAny_Expr ?_)
  | ((with_reducible show wpAny _ _ (exec (Stmt.For _ _ _ _ _) _) _ _ _); refine wpAny_For ?_)
  | ((with_reducible show wpAny _ _ (exec (Stmt.While _ _ _ _) _) _ _ _); refine wpAny_While ?_))
local macro_rules | `(tactic| walk_at "zistrue") => `(tactic| first
  | ((with_reducible show wpAny _ _ (isTrue (Expr.Compare _ [_] [_] _) _ _) _ _ _); refine wpAny_isTrue_Compare1 ?_)
  | with_reducible refine isTrue_not ?_
  | with_reducible refine isTrue_and_nil ?_
  | with_reducible refine isTrue_or_nil ?_
  | with_reducible refine isTrue_and ?_
  | with_reducible refine isTrue_or ?_
  | ((with_reducible show wpAny _ _ (isTrue (Expr.Call _ _ _ _) _ _) _ _ _); refine isTrue_plain ?_)
  | ((with_reducible show wpAny _ _ (isTrue (Expr.Name _ _) _ _) _ _ _); refine isTrue_plain ?_)
  | ((with_reducible show wpAny _ _ (isTrue (Expr.BinOp _ _ _ _) _ _) _ _ _); refine isTrue_plain ?_))
local macro_rules | `(tactic| walk_at "zint") => `(tactic| first
  | with_reducible refine Rows.add_int ?_
  | with_reducible refine Rows.sub_int ?_
  | with_reducible refine Rows.iadd_int ?_
  | with_reducible refine Rows.isub_int ?_
  | with_reducible refine Rows.neg_int ?_
  | with_reducible refine and_int ?_
  | with_reducible refine or_int ?_
  | with_reducible refine Rows.eq_int ?_
  | with_reducible refine Rows.ne_int ?_
  | with_reducible refine Rows.lt_int ?_
  | with_reducible refine Rows.le_int ?_
  | with_reducible refine Rows.gt_int ?_
  | with_reducible refine wpAny_truthy_bool ?_
  | with_reducible refine Rows.truthy_int ?_
  | with_reducible refine iteF ?_
  | with_reducible refine iteT ?_)
local macro_rules | `(tactic| walk_at "zkp") => `(tactic| with_reducible first | exact keep_ctoi _ | exact keep_isprint _ | exact keep_unctrl _ | exact keep_fspath _ | exact keep_check_arg_types _ | exact keep_get_sep _ | exact keep_join _ | exact keep_split _ | exact keep_splitroot _ | exact keep_normpath _ | exact keep_law_parts _ | exact keep_law_meant _ | exact keep_law_shown _ | exact keep_law_drawn _ | exact keep_law_cut _ | exact keep_law_straight _ | exact keep_law_parted _ | exact keep_law_climbed _)
local macro_rules | `(tactic| walk_at "zcallw") => `(tactic| first | ((with_reducible show wpAny _ _ (callWith _ (Value.builtin _) [] _ []) _ _ _); refine PyProof.Rows.callWith_builtin1 ?_) | ((with_reducible show wpAny _ _ (callWith _ (Value.type _) [] _ []) _ _ _); refine PyProof.Rows.callWith_type1 ?_) | ((with_reducible show wpAny _ _ (callWith _ (Value.ref _) [] _ []) _ _ _); refine zCallW (by assumption) (by walk_at "zkp") ?_))
local macro_rules | `(tactic| walk_at "z1") => `(tactic| first
  | ((with_reducible show wpAny _ _ (execs _ _) _ _ _); first | with_reducible refine wpAny_execs_cons ?_ | with_reducible refine wpAny_execs_nil ?_)
  | ((with_reducible show wpAny _ _ (exec _ _) _ _ _); walk_at "zexec")
  | ((with_reducible show wpAny _ _ (eval _ _) _ _ _); walk_at "zeval")
  | ((with_reducible show wpAny _ _ (isTrue _ _ _) _ _ _); walk_at "zistrue")
  | ((with_reducible show wpAny _ _ (evalPart (some _) _) _ _ _); refine wpAny_evalPart_some ?_)
  | ((with_reducible show wpAny _ _ (bindName _ _ _) _ _ _); refine bindName_ ?_)
  | ((with_reducible show wpAny _ _ (assign (Expr.Name _ _) _ _) _ _ _); refine assign_Name ?_)
  | ((with_reducible show wpAny _ _ (assignInOrder _ []) _ _ _); refine assignInOrder_nil ?_)
  | ((with_reducible show wpAny _ _ (assignInOrder _ (_ :: _)) _ _ _); refine assignInOrder_cons ?_)
  | ((with_reducible show wpAny _ _ (evalPart none _) _ _ _); refine wpAny_evalPart_none ?_)
  | ((with_reducible show wpAny _ _ (storeName _ _ _) _ _ _); refine zStore (by assumption) ?_; intro s' F' l'; (try dsimp only))
  | ((with_reducible show wpAny _ _ (loadName _ _) _ _ _); refine zLocaln (by assumption) (by walk_at "mlook") ?_)
  | ((with_reducible show wpAny _ _ (spliced _) _ _ _); first | with_reducible refine zSplice_nil ?_ | refine zSplice_cons ?_)
  | ((with_reducible show wpAny _ _ (callWith _ _ _ _ _) _ _ _); walk_at "zcallw")
  | ((with_reducible show wpAny _ _ (compareChain _ _ (_ :: _ :: _) _) _ _ _); refine chain_link ?_)
  | ((with_reducible show wpAny _ _ (compareChain _ _ [_] _) _ _ _); refine chain_last ?_)
  | ((with_reducible show Frag.In _ _ ∧ _); refine ⟨Frag.In.keeps (Amb.kin (by assumption)) (Fz.keep (by assumption)), ?_⟩)
  | walk_at "zint")
local macro_rules | `(tactic| walk_at "z1i") => `(tactic| (fail_if_success (with_reducible show wpAny _ _ (exec (Stmt.If _ _ _ _) _) _ _ _)); walk_at "z1")
local macro_rules | `(tactic| walk_at "z1o") => `(tactic| (fail_if_success (with_reducible show wpAny _ _ (eval (Expr.BoolOp BoolOp.Or _ _) _) _ _ _)); walk_at "z1")
local macro_rules | `(tactic| walk_at "like") => `(tactic| first | exact Like.refl _ | assumption | (refine Like.trans ?_ (by assumption); walk_at "like") | exact ⟨rfl, rfl, rfl⟩)
local macro_rules | `(tactic| walk_at "zsz") => `(tactic| first | (rw [sizeLine_eq]; exact Nat.le_of_ble_eq_true rfl) | (simp only [List.length_append, List.length_cons, List.length_nil, sizeLine_eq]; omega) | (simp [sizeLine_eq]; omega))

theorem runs_size {M : Model} {Γ : Ctx} {p : Pos} {t : Sem Fin} {fs : List Frame} {s s' : Shared} {e : End} (h : Runs M Γ p t fs s e s') : s.heap.objs.size ≤ s'.heap.objs.size := by
  induction h <;> (try simp only [Shared.setGen, Heap.size_push, Heap.size_after_update] at *) <;> omega
theorem wakes_size {M : Model} {Γ : Ctx} {p : Pos} {g : Nat} {r : Resume} {s s' : Shared} {res : GenResult} (h : Wakes M Γ p g r s res s') : s.heap.objs.size ≤ s'.heap.objs.size := by
  unfold Wakes at h
  split at h
  · exact h.elim
  · split at h
    · obtain ⟨e₁, s₁, hr, _, _, rfl⟩ := h; exact (runs_size hr : (s.setGen g .running).heap.objs.size ≤ s₁.heap.objs.size)
    · rw [h.2]; exact Nat.le_refl _
    · rw [h.2]; exact Nat.le_refl _
  · obtain ⟨e₁, s₁, hr, _, _, rfl⟩ := h; exact (runs_size hr : (s.setGen g .running).heap.objs.size ≤ s₁.heap.objs.size)
  · rw [h.2]; exact Nat.le_refl _
  · rw [h.2]; exact Nat.le_refl _
theorem wp_size {α : Type} (M : Model) (Γ : Ctx) (n : Nat) (t : Sem α) : ∀ (Q : α → Pos → Shared → Prop) (E : Value → Pos → Shared → Prop) (p : Pos) (s : Shared), n ≤ s.heap.objs.size → Sem.wp M Γ t Q E p s →
    Sem.wp M Γ t (fun a p' s' => n ≤ s'.heap.objs.size ∧ Q a p' s') (fun e p' s' => n ≤ s'.heap.objs.size ∧ E e p' s') p s := by
  induction t with
  | pure a => intro Q E p s hn h; exact ⟨hn, h⟩
  | raise e => intro Q E p s hn h; exact ⟨hn, h⟩
  | unsupported _ => intro Q E p s _ h; exact h
  | finish _ => intro Q E p s _ h; exact h
  | rule _ k ih => intro Q E p s hn h; exact ih () Q E p s hn h
  | «at» p' k ih => intro Q E p s hn h; exact ih () Q E p' s hn h
  | load a _ k ih => intro Q E p s hn h; obtain ⟨o, ho, h⟩ := h; exact ⟨o, ho, ih o Q E p s hn h⟩
  | update a _ f k ih => intro Q E p s hn h; exact ⟨h.1, ih () Q E p _ (by show n ≤ (s.heap.update a f).objs.size; rw [Heap.size_after_update]; exact hn) h.2⟩
  | loadIfAlive a k ih => intro Q E p s hn h; exact ih _ Q E p s hn h
  | point _ k ih => intro Q E p s hn h; exact ih () Q E p s hn h
  | register _ _ => intro Q E p s _ h; exact h
  | alloc o k ih => intro Q E p s hn h; exact ih _ Q E p _ (by show n ≤ (s.heap.push o).objs.size; rw [Heap.size_push]; exact Nat.le_succ_of_le hn) h
  | fresh k ih => intro Q E p s hn h; exact ih _ Q E p _ hn h
  | ask k ih => intro Q E p s hn h; exact ih _ Q E p s hn h
  | choose src m k ih => intro Q E p s hn h; exact ⟨h.1, ih _ Q E p _ hn h.2⟩
  | os q _ k ih => intro Q E p s hn h; exact ih _ Q E p _ hn h
  | call c hd _ _ k ih => intro Q E p s hn h; obtain ⟨r, s', hr, h⟩ := h; exact ⟨r, s', hr, ih r Q E p s' (Nat.le_trans hn (runs_size hr)) h⟩
  | handled own k ih => intro Q E p s hn h; exact ih _ Q E p s hn h
  | genState g k ih => intro Q E p s hn h; obtain ⟨st, hs, h⟩ := h; exact ⟨st, hs, ih _ Q E p s hn h⟩
  | newGen c k ih => intro Q E p s hn h; exact ih _ Q E p _ hn h
  | resume g r _ k ih => intro Q E p s hn h; obtain ⟨res, s', hw, h⟩ := h; exact ⟨res, s', hw, ih res Q E p s' (Nat.le_trans hn (wakes_size hw)) h⟩
  | yield _ _ _ _ => intro Q E p s _ h; exact h
  | stack k ih => intro Q E p s hn h; exact ih _ Q E p s hn h
  | fork _ _ => intro Q E p s _ h; exact h
  | thread k ih => intro Q E p s hn h; exact ih _ Q E p s hn h
  | await _ _ _ _ _ => intro Q E p s _ h; exact h
theorem wpAny_sized {α : Type} {M : Model} {A : Around} {s : Shared} {t : Sem α} {Q : α → Shared → Prop} {E : Value → Shared → Prop}
    (h : wpAny M A t (fun a s' => s.heap.objs.size ≤ s'.heap.objs.size → Q a s') E s) : wpAny M A t Q E s :=
  fun Γ p hΓ => Sem.wp_mono M Γ t (fun a _ s' (x : s.heap.objs.size ≤ s'.heap.objs.size ∧ (s.heap.objs.size ≤ s'.heap.objs.size → Q a s')) => x.2 x.1) (fun _ _ _ x => x.2) p s (wp_size M Γ _ t _ _ p s (Nat.le_refl _) (h Γ p hΓ))

section
variable {lo : Nat} {z₀ hc z z' h h' : Heap} {L : Addr} {m m' : Str → Option Value} {ms : List (Addr × Obj)}

theorem Fz.mutateE {pre post : List (Addr × Obj)} {a : Addr} {o o' : Obj} (F : Fz lo z₀ hc z L m (pre ++ (a, o) :: post) h) (hs : Heap.ExtBut a h h') (sz : h.objs.size ≤ h'.objs.size) (ho : h'.get? a = some o') :
    Fz lo z₀ hc z L m (pre ++ (a, o') :: post) h' := by
  have Ma := F.mu (a, o) (by simp)
  have nd := F.nd
  rw [List.map_append, List.map_cons] at nd
  have hn := List.nodup_append.mp nd
  have hpre : ∀ p ∈ pre, p.1 ≠ a := fun p hp e => hn.2.2 _ (List.mem_map_of_mem hp) a (.head _) e
  have hpost : ∀ p ∈ post, p.1 ≠ a := fun p hp e => (List.nodup_cons.mp hn.2.1).1 (List.mem_map.mpr ⟨p, hp, e⟩)
  refine ⟨F.ns.extBut hs (Ne.symm Ma.2.1), fun b ob e => hs b ob (ne_of_get e Ma.2.2.1) (F.keep b ob e), fun b ob e => hs b ob (ne_of_get e Ma.2.2.2.1) (F.base b ob e), Nat.le_trans F.sz sz, F.zz, F.new, F.zL, F.cL, fun p hp => ?_, by rw [List.map_append, List.map_cons]; exact nd⟩
  rcases List.mem_append.mp hp with q | q
  · have M := F.mu p (by simp [q]); exact ⟨hs _ _ (hpre p q) M.1, M.2⟩
  · rcases List.mem_cons.mp q with rfl | q
    · exact ⟨ho, Ma.2⟩
    · have M := F.mu p (by simp [q]); exact ⟨hs _ _ (hpost p q) M.1, M.2⟩

theorem Fz.lose {a : Addr} {o : Obj} (F : Fz lo z₀ hc z L m ((a, o) :: ms) h) (hs : Heap.ExtBut a h h') (sz : h.objs.size ≤ h'.objs.size) : Fz lo z₀ hc z L m ms h' := by
  have Ma := F.mu (a, o) (.head _)
  have hpost : ∀ p ∈ ms, p.1 ≠ a := fun p hp e => (List.nodup_cons.mp F.nd).1 (List.mem_map.mpr ⟨p, hp, e⟩)
  exact ⟨F.ns.extBut hs (Ne.symm Ma.2.1), fun b ob e => hs b ob (ne_of_get e Ma.2.2.1) (F.keep b ob e), fun b ob e => hs b ob (ne_of_get e Ma.2.2.2.1) (F.base b ob e), Nat.le_trans F.sz sz, F.zz, F.new, F.zL, F.cL,
    fun p hp => let M := F.mu p (.tail _ hp); ⟨hs _ _ (hpost p hp) M.1, M.2⟩, (List.nodup_cons.mp F.nd).2⟩

theorem Fz.swap {p q : Addr × Obj} (F : Fz lo z₀ hc z L m (p :: q :: ms) h) : Fz lo z₀ hc z L m (q :: p :: ms) h :=
  { F with
    mu := fun r hr => F.mu r (by simp only [List.mem_cons] at hr ⊢; rcases hr with h | h | h <;> simp [h])
    nd := by
      have := F.nd
      simp only [List.map_cons, List.nodup_cons, List.mem_cons, not_or] at this ⊢
      exact ⟨⟨fun e => this.1.1 e.symm, this.2.1⟩, this.1.2, this.2.2⟩ }

/-- the inner block of a comprehension, its names at C -/
theorem Fz.enter {C : Addr} {oC : Obj} {mc : Str → Option Value} (F : Fz lo z₀ hc z L m ((C, oC) :: ms) h) (hn : h.Ns C mc) : Fz h.objs.size z (only h fun a => a != C) z C mc [] h where
  ns := hn
  keep := F.keep
  base := fun a o e => (only_some.mp e).2
  sz := Nat.le_refl _
  zz := stays_refl _
  new := fun _ _ e => .inr e
  zL := (F.mu _ (.head _)).2.2.1
  cL := by rw [only_get]; simp
  mu := fun _ hp => by cases hp
  nd := List.nodup_nil
theorem Fz.leave {C : Addr} {oC : Obj} {mc : Str → Option Value} {ms' : List (Addr × Obj)} (F : Fz lo z₀ hc z L m ((C, oC) :: ms) h) (G : Fz h.objs.size z (only h fun a => a != C) z' C mc ms' h') :
    ∃ oC', Fz lo z₀ hc z' L m ((C, oC') :: ms) h' ∧ h'.Ns C mc := by
  have MC := F.mu (C, oC) (.head _)
  obtain ⟨oC', es, ep, ho, r⟩ := id G.ns
  have kp : ∀ b ob, b ≠ C → h.get? b = some ob → h'.get? b = some ob := fun b ob hb e => G.base b ob (only_some.mpr ⟨by simpa using hb, e⟩)
  have nz : ∀ b ob, z.get? b = none → h.get? b = some ob → z'.get? b = none := fun b ob hb e => by
    cases q : z'.get? b with
    | none => rfl
    | some o' =>
      rcases G.new b o' q with y | y
      · exact absurd (Heap.lt_size e) (Nat.not_lt.mpr y)
      · rw [hb] at y; cases y
  obtain ⟨oL, hL1, hL2, hL, hLr⟩ := id F.ns
  refine ⟨oC', ⟨⟨oL, hL1, hL2, kp L oL (Ne.symm MC.2.1) hL, hLr⟩, G.keep, fun b ob e => kp b ob (ne_of_get e MC.2.2.2.1) (F.base b ob e), Nat.le_trans F.sz G.sz, stays_trans F.zz G.zz,
    fun a o e => (G.new a o e).elim (fun y => .inl (Nat.le_trans F.sz y)) (F.new a o), nz L oL F.zL hL, F.cL, fun p hp => ?_, F.nd⟩, G.ns⟩
  rcases List.mem_cons.mp hp with rfl | hp
  · exact ⟨ho, MC.2.1, G.zL, MC.2.2.2⟩
  · have M := F.mu p (.tail _ hp)
    have hpC : p.1 ≠ C := fun e => (List.nodup_cons.mp F.nd).1 (List.mem_map.mpr ⟨p, hp, e⟩)
    exact ⟨kp _ _ hpC M.1, M.2.1, nz _ _ M.2.2.1 M.1, M.2.2.2⟩
end

section
variable {prog : Program} {w : World} {A : Around} {E : Value → Shared → Prop} {s : Shared} {env : Env} {lo : Nat} {z₀ hc z : Heap} {L : Addr} {m : Str → Option Value} {ms : List (Addr × Obj)}

/-- an iterator of the frame's own: it alone is written, what it reads is frozen -/
structure Own (I : Addr) (fp wr : List Addr) (St : Nat → Heap → Prop) (z : Heap) : Prop where
  wr : ∀ b ∈ wr, b = I
  fp : ∀ b ∈ fp, b = I ∨ ∃ o, z.get? b = some o
  at' : ∀ i h, St i h → ∃ o, h.get? I = some o

theorem Own.st {I : Addr} {fp wr : List Addr} {St : Nat → Heap → Prop} {n : Nat} {P : Nat → Value → Prop} (O : Own I fp wr St z) (W : Walks prog w A I fp wr n P St) {i : Nat} {h h' : Heap} {o : Obj}
    (st : St i h) (hz : z.StaysIn h) (hz' : z.StaysIn h') (hI : h.get? I = some o) (hI' : h'.get? I = some o) : St i h' := by
  refine W.frame i h h' st fun b hb ob e => ?_
  rcases O.fp b hb with rfl | ⟨o', q⟩
  · rw [hI] at e; cases e; exact hI'
  · have := hz _ _ q; rw [e] at this; cases this; exact hz' _ _ q

theorem zForLoop {R : Result → Shared → Prop} {x : Str} {px : Pos} {body : List Stmt} {I : Addr} {o : Obj} {fp wr : List Addr} {n : Nat} {P : Nat → Value → Prop} {St : Nat → Heap → Prop}
    (W : Walks prog w A I fp wr n P St) (O : Own I fp wr St z) (F : Fz lo z₀ hc z L m ((I, o) :: ms) s.heap) (hst : St 0 s.heap)
    (J : Nat → Heap → (Str → Option Value) → List (Addr × Obj) → Prop) (h0 : J 0 z m ms)
    (turn : ∀ i v z' m' ms' o' s' E', i < n → P i v → z.StaysIn z' → J i z' m' ms' → Fz lo z₀ hc z' L (upd m' x v) ((I, o') :: ms') s'.heap → Like s s' →
      wpAny (model prog w) A (execs body env) (fun f s'' => (f = .next ∨ f = .cont) ∧ ∃ z'' m'' ms'', Fz lo z₀ hc z'' L m'' ((I, o') :: ms'') s''.heap ∧ z'.StaysIn z'' ∧ J (i + 1) z'' m'' ms'' ∧ Like s s'') E' s')
    (done : ∀ z' m' ms' s', z.StaysIn z' → J n z' m' ms' → Fz lo z₀ hc z' L m' ms' s'.heap → Like s s' → R (.ok .next) s')
    (hL : env.locals = L := by rfl) (hx : env.kindOf x = some .local := by rfl) (hp : (env.scope.kind == .class || (env.scope.kind == .module && env.locals != env.globals)) = false := by rfl)
    (ht : ∀ v, letOwnedTupleGo (.Name x px) (.ref I) v = pure () := by intro _; rfl) :
    codeAny (model prog w) A (.forLoop (.Name x px) (.ref I) body [] env) R s := by
  refine codeAny_forLoop (fun k s' => ∃ i z' m' ms' o', k = n + 1 - i ∧ i ≤ n ∧ St i s'.heap ∧ Fz lo z₀ hc z' L m' ((I, o') :: ms') s'.heap ∧ z.StaysIn z' ∧ J i z' m' ms' ∧ Like s s') ?_ (n + 1)
    ⟨0, z, m, ms, o, rfl, Nat.zero_le _, hst, F, stays_refl _, h0, Like.refl _⟩ ht
  rintro k s' ⟨i, z', m', ms', o', rfl, hi, st, F', hz, hJ, lk⟩
  have ext : ∀ h₁ : Heap, (∀ b ob, b ∉ wr → s'.heap.get? b = some ob → h₁.get? b = some ob) → Heap.ExtBut I s'.heap h₁ := fun h₁ q b ob hb e => q b ob (fun hm => hb (O.wr b hm)) e
  refine wpAny_sized ?_
  by_cases hlt : i < n
  · refine W.item i s' _ _ hlt st fun v h₁ tk hP st₁ hk sz => ?_
    obtain ⟨o₁, ho₁⟩ := O.at' _ _ st₁
    have F₁ : Fz lo z₀ hc z' L m' ((I, o₁) :: ms') h₁ := Fz.mutateE (pre := []) F' (ext h₁ hk) sz ho₁
    refine wpAny_assign_Name (zStore (s := { s' with heap := h₁, toks := tk }) F₁ (fun s₂ F₂ l₂ => ?_) hL hx hp)
    have st₂ : St (i + 1) s₂.heap := O.st W st₁ (stays_trans hz F₁.keep) (stays_trans hz F₂.keep) ho₁ (F₂.mu _ (.head _)).1
    refine wpAny_mono (turn i v z' m' ms' o₁ s₂ _ hlt hP hz hJ F₂ (lk.trans l₂)) (fun f s₃ q => ?_) fun _ _ y => y
    obtain ⟨hf, z₃, m₃, ms₃, F₃, hz₃, hJ₃, l₃⟩ := q
    have fin : ∃ k, k < n + 1 - i ∧ ∃ i z' m' ms' o', k = n + 1 - i ∧ i ≤ n ∧ St i s₃.heap ∧ Fz lo z₀ hc z' L m' ((I, o') :: ms') s₃.heap ∧ z.StaysIn z' ∧ J i z' m' ms' ∧ Like s s₃ :=
      ⟨n + 1 - (i + 1), by omega, i + 1, z₃, m₃, ms₃, o₁, rfl, hlt, O.st W st₂ (stays_trans hz F₂.keep) (stays_trans hz (stays_trans hz₃ F₃.keep)) (F₂.mu _ (.head _)).1 (F₃.mu _ (.head _)).1, F₃, stays_trans hz hz₃, hJ₃, l₃⟩
    rcases hf with rfl | rfl
    · exact fin
    · exact fin
  · have hin : i = n := by omega
    subst hin
    refine W.done s' _ _ st fun h₁ tk hk sz => ?_
    exact wpAny_execs_nil (done z' m' ms' _ hz hJ (F'.lose (ext h₁ hk) sz) lk)
end

def tS (l : List Nat) : Str := ⟨l.toArray⟩
def pic (c : Nat) : List Nat := (if c > 127 then [33] else []) ++ (if c = 127 then [94, 63] else if c % 128 = 127 then [94, 159] else if c % 128 < 32 then [94, c % 128 + 64] else [c % 128])
section
variable {prog : Program} {w : World} {A : Around} {E : Value → Shared → Prop} {s : Shared} {z : Heap} {mg mb : Str → Option Value}
set_option maxHeartbeats 0
theorem ctoi_int {c : Int} {t : Tok} {Q : Value → Shared → Prop} (Am : Amb (KK w) mg mb z) (hz : z.StaysIn s.heap) (hA : Rm A 1)
    (hQ : ∀ z' s', Step z s.heap z' s'.heap → Like s s' → Q (.int c t) s') : wpAny (model prog w) A (call (.ref 28) [.int c t]) Q E s := by
  refine zDef (binds := [(Str.ofString "c", .int c t)]) Am hz hA rfl rfl rfl rfl ?_
  intro L s₁ E' A' F l R
  repeat' walk_at "z1"
  refine IsiPair.int_str ?_
  repeat' walk_at "z1"
  exact hQ z _ F.done (by walk_at "like")
theorem ctoi_str {c : Nat} {t : Tok} {Q : Value → Shared → Prop} (Am : Amb (KK w) mg mb z) (hz : z.StaysIn s.heap) (hA : Rm A 1)
    (hQ : ∀ z' s' t', Step z s.heap z' s'.heap → Like s s' → Q (.int c t') s') : wpAny (model prog w) A (call (.ref 28) [.str (tS [c]) t]) Q E s := by
  refine zDef (binds := [(Str.ofString "c", .str (tS [c]) t)]) Am hz hA rfl rfl rfl rfl ?_
  intro L s₁ E' A' F l R
  repeat' walk_at "z1"
  refine IsiPair.str_str ?_
  repeat' walk_at "z1"
  refine P.ord_of_char ?_
  exact hQ z _ _ F.done (by walk_at "like")
theorem isprint_int {c : Int} {t : Tok} {Q : Value → Shared → Prop} (Am : Amb (KK w) mg mb z) (hz : z.StaysIn s.heap) (hA : Rm A 2)
    (hQ : ∀ z' s', Step z s.heap z' s'.heap → Like s s' → Q (.bool (decide (32 ≤ c) && decide (c ≤ 126))) s') : wpAny (model prog w) A (call (.ref 35) [.int c t]) Q E s := by
  refine zDef (binds := [(Str.ofString "c", .int c t)]) Am hz hA rfl rfl rfl rfl ?_
  intro L s₁ E' A' F l R
  repeat' walk_at "z1"
  refine ctoi_int Am F.keep R ?_
  intro z₂ s₂ st l₂
  have F := F.step st
  repeat' walk_at "z1"
  refine iteB (fun h => ?_) (fun h => ?_)
  · repeat' walk_at "z1"
    have := hQ _ { s₂ with toks := s₂.toks + 1 } F.done (by walk_at "like")
    rw [h] at this; simpa using this
  · have := hQ _ s₂ F.done (by walk_at "like")
    rw [h] at this; simpa [h] using this
theorem pic_a : ∀ n < 256, (n == 127) = false → (decide (32 ≤ Builtin.bitAnd (n : Nat) 127) && decide (Builtin.bitAnd (n : Nat) 127 ≤ 126)) = true → (Builtin.bitAnd (n : Nat) 128 != 0) = true → Str.ofString "!" ++ tS [(Builtin.bitAnd (n : Nat) 127).toNat] = tS (pic n) := by decide +kernel
theorem pic_b : ∀ n < 256, (n == 127) = false → (decide (32 ≤ Builtin.bitAnd (n : Nat) 127) && decide (Builtin.bitAnd (n : Nat) 127 ≤ 126)) = true → (Builtin.bitAnd (n : Nat) 128 != 0) = false → tS [(Builtin.bitAnd (n : Nat) 127).toNat] = tS (pic n) := by decide +kernel
theorem pic_c : ∀ n < 256, (n == 127) = false → (decide (32 ≤ Builtin.bitAnd (n : Nat) 127) && decide (Builtin.bitAnd (n : Nat) 127 ≤ 126)) = false → (Builtin.bitAnd (n : Nat) 128 != 0) = true → Str.ofString "!" ++ (Str.ofString "^" ++ tS [(Builtin.bitOr (Builtin.bitAnd (n : Nat) 127) 32 + 32).toNat]) = tS (pic n) := by decide +kernel
theorem pic_d : ∀ n < 256, (n == 127) = false → (decide (32 ≤ Builtin.bitAnd (n : Nat) 127) && decide (Builtin.bitAnd (n : Nat) 127 ≤ 126)) = false → (Builtin.bitAnd (n : Nat) 128 != 0) = false → (Str.ofString "^" ++ tS [(Builtin.bitOr (Builtin.bitAnd (n : Nat) 127) 32 + 32).toNat]) = tS (pic n) := by decide +kernel
theorem pic_in : ∀ n < 256, 0 ≤ Builtin.bitAnd (n : Nat) 127 ∧ Builtin.bitAnd (n : Nat) 127 ≤ 1000 ∧ 0 ≤ Builtin.bitOr (Builtin.bitAnd (n : Nat) 127) 32 + 32 ∧ Builtin.bitOr (Builtin.bitAnd (n : Nat) 127) 32 + 32 ≤ 1000 := by decide +kernel
def IsCode (v : Value) (n : Nat) : Prop := (∃ t, v = .int n t) ∨ (∃ t, v = .str (tS [n]) t)
theorem ctoi_code {n : Nat} {v : Value} {Q : Value → Shared → Prop} (Am : Amb (KK w) mg mb z) (hz : z.StaysIn s.heap) (hA : Rm A 1) (hv : IsCode v n)
    (hQ : ∀ z' s' t', Step z s.heap z' s'.heap → Like s s' → Q (.int n t') s') : wpAny (model prog w) A (call (.ref 28) [v]) Q E s := by
  rcases hv with ⟨t, rfl⟩ | ⟨t, rfl⟩
  · exact ctoi_int Am hz hA fun z' s' st l => hQ z' s' t st l
  · exact ctoi_str Am hz hA hQ
theorem unctrl_code {n : Nat} {v : Value} {Q : Value → Shared → Prop} (Am : Amb (KK w) mg mb z) (hz : z.StaysIn s.heap) (hA : Rm A 3) (hn : n < 256) (hv : IsCode v n)
    (hQ : ∀ z' s' t, Step z s.heap z' s'.heap → Like s s' → Q (.str (tS (pic n)) t) s') : wpAny (model prog w) A (call (.ref 42) [v]) Q E s := by
  refine zDef (binds := [(Str.ofString "c", v)]) Am hz hA rfl rfl rfl rfl ?_
  intro L s₁ E' A' F l R
  repeat' walk_at "z1"
  refine ctoi_code Am F.keep (R.le (by omega)) hv ?_
  intro z₂ s₂ t₂ st₂ l₂
  have F := F.step st₂
  have Am := Am.mono st₂.zz
  repeat' walk_at "z1"
  refine iteB (fun h1 => ?_) (fun h1 => ?_)
  · have h1 : n = 127 := by have := eq_of_beq h1; omega
    subst h1
    repeat' walk_at "z1"
    refine iteB (fun h2 => absurd h2 (by decide +kernel)) (fun _ => ?_)
    repeat' walk_at "z1"
    exact hQ _ _ _ (Fz.done (by assumption)) (by walk_at "like")
  · have h1 : (n == 127) = false := by rw [beq_eq_false_iff_ne] at h1 ⊢; omega
    have hin := pic_in n hn
    repeat' walk_at "z1"
    refine isprint_int Am (Fz.keep (by assumption)) R ?_
    intro z₃ s₃ st₃ l₃
    have F := Fz.step (by assumption) st₃
    have Am := Am.mono st₃.zz
    repeat' walk_at "z1"
    refine iteB (fun h2 => ?_) (fun h2 => ?_)
    · repeat' walk_at "z1"
      refine chr_of_range (by omega) (by omega) ?_
      repeat' walk_at "z1"
      refine iteB (fun h3 => ?_) (fun h3 => ?_)
      · repeat' walk_at "z1"
        refine Rows.add_str ?_ (by rw [sizeLine_eq]; exact Nat.le_of_ble_eq_true rfl)
        intro t' tk
        have := pic_a n hn h1 h2 h3
        refine Eq.subst (motive := fun x => Q (.str x t') _) this.symm (hQ _ _ t' (Fz.done (by assumption)) (by walk_at "like"))
      · repeat' walk_at "z1"
        have := pic_b n hn h1 h2 h3
        refine Eq.subst (motive := fun x => Q (.str x _) _) this.symm (hQ _ _ _ (Fz.done (by assumption)) (by walk_at "like"))
    · repeat' walk_at "z1"
      refine chr_of_range (by omega) (by omega) ?_
      refine Rows.add_str ?_ (by rw [sizeLine_eq]; exact Nat.le_of_ble_eq_true rfl)
      intro t' tk
      repeat' walk_at "z1"
      refine iteB (fun h3 => ?_) (fun h3 => ?_)
      · repeat' walk_at "z1"
        refine Rows.add_str ?_ (by rw [sizeLine_eq]; exact Nat.le_of_ble_eq_true rfl)
        intro t' tk
        have := pic_c n hn h1 h2 h3
        refine Eq.subst (motive := fun x => Q (.str x t') _) this.symm (hQ _ _ t' (Fz.done (by assumption)) (by walk_at "like"))
      · repeat' walk_at "z1"
        have := pic_d n hn h1 h2 h3
        refine Eq.subst (motive := fun x => Q (.str x _) _) this.symm (hQ _ _ _ (Fz.done (by assumption)) (by walk_at "like"))
end

abbrev LO (its : List Value) (n : Nat) : Obj := { cls := .type "list", dict := none, data := .seq its.toArray n, slots := #[] }
section
variable {prog : Program} {w : World} {A : Around} {E : Value → Shared → Prop} {s : Shared} {env : Env} {lo : Nat} {z₀ hc z : Heap} {L : Addr} {m : Str → Option Value} {ms : List (Addr × Obj)}

theorem zAppend {pre post : List (Addr × Obj)} {D : Addr} {ys : List Value} {k : Nat} {y : Value} {Q : Value → Shared → Prop} (F : Fz lo z₀ hc z L m (pre ++ (D, LO ys k) :: post) s.heap) (hsz : ys.length ≤ sizeLine)
    (h : ∀ k' s', Fz lo z₀ hc z L m (pre ++ (D, LO (ys ++ [y]) k') :: post) s'.heap → Heap.SameBut D s.heap s'.heap → Like s s' → Q .none s') : wpAny (model prog w) A (call (.builtin "list.append") [.ref D, y]) Q E s := by
  refine wpAny_list_append_plain (items := ys.toArray) ⟨k, (F.mu (D, LO ys k) (by simp)).1⟩ (fun h' hl hs => ?_) (by simpa using hsz)
  obtain ⟨k', e⟩ := hl
  refine h k' { s with heap := h' } (F.mutate hs ?_) hs ⟨rfl, rfl, rfl⟩
  rw [e]; simp

theorem zCompCore {elt iter : Expr} {x : Str} {px : Pos} {ifs : List Expr} {scope : Scope} {cl : List (Str × Addr)} {pos : Pos} {RR : Value → Addr → Result → Shared → Prop}
    {I : Addr} {o : Obj} {fp wr : List Addr} {n : Nat} {P : Nat → Value → Prop} {St : Nat → Heap → Prop}
    (W : Walks prog w A I fp wr n P St) (O : Own I fp wr St z) (F : Fz lo z₀ hc z L m ((I, o) :: ms) s.heap) (hst : St 0 s.heap) (hsz : n ≤ sizeLine)
    (hcell : ∀ y ∈ scope.names, y.2 ≠ .cell) (hkind : scope.kind = .function) (hx : scope.names.lookup x = some .local)
    (J : Nat → Heap → List Value → Prop) (h0 : J 0 z [])
    (turn : ∀ i v z' ys C mc s' E' loC hcC, i < n → P i v → z.StaysIn z' → J i z' ys → Fz loC z' hcC z' C (upd mc x v) [] s'.heap → Like s s' →
      wpAny (model prog w) A (forIn ifs true fun c r => if r = true then do let ok ← isTrue c (compEnvC scope cl C env) (eval c (compEnvC scope cl C env)); pure (ForInStep.yield ok) else pure (ForInStep.yield r))
        (fun ok s₃ => if ok = true then wpAny (model prog w) A (eval elt (compEnvC scope cl C env)) (fun y s₄ => ∃ z'' m'', Fz loC z' hcC z'' C m'' [] s₄.heap ∧ J (i + 1) z'' (ys ++ [y]) ∧ Like s s₄) E' s₃
          else ∃ z'' m'', Fz loC z' hcC z'' C m'' [] s₃.heap ∧ J (i + 1) z'' ys ∧ Like s s₃) E' s')
    (hend : ∀ D C oC mc z' ys k s', Fz lo z₀ hc z' L m ((C, oC) :: (D, LO ys k) :: ms) s'.heap → s'.heap.Ns C mc → z.StaysIn z' → J n z' ys → Like s s' → RR (.ref D) C (.ok .next) s') :
    wpAny (model prog w) A (newList []) (fun acc s₃ => wpAny (model prog w) A (newFunctionEnv scope env.globals cl [] env.qual none .none (some env)) (fun cenv s₄ =>
      codeAny (model prog w) A (.compStart (.ListComp elt [⟨.Name x px, iter, ifs, 0⟩] scope pos) 0 (.ref I) acc { cenv with scope := relabel scope env }) (RR acc cenv.locals) s₄) E s₃) E s := by
  refine wpAny_newObj_type (wpAny_newFunctionEnv hcell (by intro y hy; simp at hy) (fun h₁ hns₁ hsb₁ => ?_) hkind)
  dsimp only at hns₁ hsb₁ ⊢
  have F1 := (F.pushMut (LO [] 0)).swap
  have F2 := (F1.pushMut { cls := .type "dict", data := .dict #[] }).swap
  generalize hD : s.heap.objs.size = D at *
  generalize hH : s.heap.push (LO [] 0) = H at *
  generalize hC : H.objs.size = C at *
  obtain ⟨oC, es₁, ep₁, hoC, hr₁⟩ := id hns₁
  have F3 : Fz lo z₀ hc z L m ((I, o) :: (C, oC) :: (D, LO [] 0) :: ms) h₁ := Fz.mutate (pre := [(I, o)]) F2 hsb₁ hoC
  have stI : ∀ {i : Nat} {h h' : Heap} {oo : Obj}, St i h → z.StaysIn h → z.StaysIn h' → h.get? I = some oo → h'.get? I = some oo → St i h' := fun a b c d e => O.st W a b c d e
  have hst₁ : St 0 h₁ := stI hst F.keep F3.keep (F.mu _ (.head _)).1 (F3.mu _ (.head _)).1
  have loop : ∀ s₃ : Shared, s₃ = { s with heap := h₁, toks := s.toks + ([] : List (Str × Value)).length } →
      codeAny (model prog w) A (.compLoop (.ListComp elt [⟨.Name x px, iter, ifs, 0⟩] scope pos) 0 (.ref I) (.ref D) (compEnvC scope cl C env)) (RR (.ref D) C) s₃ := by
    rintro s₃ rfl
    have hk' : (compEnvC scope cl C env).kindOf x = some .local := lookup_relabel_local hx
    refine codeAny_compLoop_tests (fun k s' => ∃ i z' ys kk oC mc o', k = n + 1 - i ∧ i ≤ n ∧ ys.length ≤ i ∧ St i s'.heap ∧ Fz lo z₀ hc z' L m ((I, o') :: (C, oC) :: (D, LO ys kk) :: ms) s'.heap ∧ s'.heap.Ns C mc ∧ z.StaysIn z' ∧ J i z' ys ∧ Like s s') ?_ (n + 1)
      ⟨0, z, [], 0, oC, _, o, rfl, Nat.zero_le _, Nat.le_refl _, hst₁, F3, hns₁, stays_refl _, h0, ⟨rfl, rfl, rfl⟩⟩
    rintro k s' ⟨i, z', ys, kk, oC, mc, o', rfl, hi, hys, st, F', hn', hz, hJ, lk⟩
    have ext : ∀ h₁ : Heap, (∀ b ob, b ∉ wr → s'.heap.get? b = some ob → h₁.get? b = some ob) → Heap.ExtBut I s'.heap h₁ := fun h₁ q b ob hb e => q b ob (fun hm => hb (O.wr b hm)) e
    have hIC : C ≠ I := fun e => by have := F'.nd; simp [e] at this
    refine wpAny_sized ?_
    by_cases hlt : i < n
    · refine W.item i s' _ _ hlt st fun v h₁ tk hP st₁ hk sz => ?_
      obtain ⟨o₁, ho₁⟩ := O.at' _ _ st₁
      have F₁ : Fz lo z₀ hc z' L m ((I, o₁) :: (C, oC) :: (D, LO ys kk) :: ms) h₁ := Fz.mutateE (pre := []) F' (ext h₁ hk) sz ho₁
      have hn₁ : h₁.Ns C mc := hn'.extBut (ext h₁ hk) hIC
      refine wpAny_assign_Name (wpAny_storeName_local hk' hn₁ (fun h₂ hn₂ hs₂ => ?_) (by simp [compEnvC, relabel, hkind]))
      obtain ⟨oC₂, es₂, ep₂, hoC₂, hr₂⟩ := id hn₂
      have F₂ : Fz lo z₀ hc z' L m ((C, oC₂) :: (I, o₁) :: (D, LO ys kk) :: ms) h₂ := (Fz.mutate (pre := [(I, o₁)]) F₁ hs₂ hoC₂).swap
      have st₂ : St (i + 1) h₂ := stI st₁ (stays_trans hz F₁.keep) (stays_trans hz F₂.keep) ho₁ (F₂.mu (I, o₁) (by simp)).1
      have G := F₂.enter hn₂
      refine wpAny_mono (turn i v z' ys C mc { s' with heap := h₂, toks := tk + 1 } _ _ _ hlt hP hz hJ G (lk.trans ⟨rfl, rfl, rfl⟩)) (fun ok s₃ q => ?_) fun _ _ y => y
      cases ok with
      | false =>
        simp only [Bool.false_eq_true, if_false] at q ⊢
        obtain ⟨z₃, m₃, G₃, hJ₃, l₃⟩ := q
        obtain ⟨oC₃, F₃, hn₃⟩ := F₂.leave G₃
        exact ⟨n + 1 - (i + 1), by omega, i + 1, z₃, ys, kk, oC₃, m₃, o₁, rfl, hlt, by omega, stI st₂ (stays_trans hz F₂.keep) (stays_trans hz (stays_trans G₃.zz F₃.keep)) (F₂.mu (I, o₁) (by simp)).1 (F₃.mu (I, o₁) (by simp)).1, F₃.swap, hn₃, stays_trans hz G₃.zz, hJ₃, l₃⟩
      | true =>
        simp only [if_true] at q ⊢
        refine wpAny_mono q (fun y s₄ q => ?_) fun _ _ y => y
        obtain ⟨z₃, m₃, G₃, hJ₃, l₃⟩ := q
        obtain ⟨oC₃, F₃, hn₃⟩ := F₂.leave G₃
        have hDC : C ≠ D := fun e => by have := F'.nd; simp [e] at this
        refine zAppend (pre := [(C, oC₃), (I, o₁)]) F₃ (by omega) fun k' s₅ F₅ hs₅ l₅ => ?_
        exact ⟨n + 1 - (i + 1), by omega, i + 1, z₃, ys ++ [y], k', oC₃, m₃, o₁, rfl, hlt, by simp; omega, stI st₂ (stays_trans hz F₂.keep) (stays_trans hz (stays_trans G₃.zz F₅.keep)) (F₂.mu (I, o₁) (by simp)).1 (F₅.mu (I, o₁) (by simp)).1, F₅.swap, hn₃.sameBut hs₅ hDC, stays_trans hz G₃.zz, hJ₃, l₃.trans l₅⟩
    · have hin : i = n := by omega
      subst hin
      refine W.done s' _ _ st fun h₁ tk hk sz => ?_
      exact hend D C oC mc z' ys kk { s' with heap := h₁, toks := tk } (F'.lose (ext h₁ hk) sz) (hn'.extBut (ext h₁ hk) hIC) hz hJ (lk.trans ⟨rfl, rfl, rfl⟩)
  exact codeAny_compStart_list (loop _ rfl) (W.self 0 _ _ _ hst₁ (loop _ rfl))
end

/-! data on the frozen heap -/
abbrev TO (its : List Value) (n : Nat) : Obj := { cls := .type "tuple", dict := none, data := .seq its.toArray n, slots := #[] }
def LstOf {α : Type} (R : Heap → Value → α → Prop) (z : Heap) (v : Value) (xs : List α) : Prop := ∃ a its k, v = .ref a ∧ z.get? a = some (LO its k) ∧ Paired (R z) its xs
def TupOf {α : Type} (R : Heap → Value → α → Prop) (z : Heap) (v : Value) (xs : List α) : Prop := ∃ a its k, v = .ref a ∧ z.get? a = some (TO its k) ∧ Paired (R z) its xs
def RInt (_ : Heap) (v : Value) (n : Int) : Prop := ∃ t, v = .int n t
def RNat (_ : Heap) (v : Value) (n : Nat) : Prop := ∃ t, v = .int n t
def RStr (_ : Heap) (v : Value) (l : List Nat) : Prop := ∃ t, v = .str (tS l) t
def RByt (_ : Heap) (v : Value) (l : List UInt8) : Prop := ∃ t, v = .bytes l.toArray t
def Mono {α : Type} (R : Heap → Value → α → Prop) : Prop := ∀ z z' v x, z.StaysIn z' → R z v x → R z' v x
theorem mono_RInt : Mono RInt := fun _ _ _ _ _ h => h
theorem mono_RNat : Mono RNat := fun _ _ _ _ _ h => h
theorem mono_RStr : Mono RStr := fun _ _ _ _ _ h => h
theorem mono_RByt : Mono RByt := fun _ _ _ _ _ h => h
theorem paired_mono {α β : Type} {F G : α → β → Prop} (hm : ∀ a b, F a b → G a b) : ∀ {l₁ : List α} {l₂ : List β}, Paired F l₁ l₂ → Paired G l₁ l₂
  | _, _, .nil => .nil
  | _, _, .cons h t => .cons (hm _ _ h) (paired_mono hm t)
theorem mono_Lst {α : Type} {R : Heap → Value → α → Prop} (hR : Mono R) : Mono (LstOf R) := fun z z' v x k ⟨a, its, n, e, h, p⟩ => ⟨a, its, n, e, k _ _ h, paired_mono (fun v x => hR z z' v x k) p⟩
theorem mono_Tup {α : Type} {R : Heap → Value → α → Prop} (hR : Mono R) : Mono (TupOf R) := fun z z' v x k ⟨a, its, n, e, h, p⟩ => ⟨a, its, n, e, k _ _ h, paired_mono (fun v x => hR z z' v x k) p⟩
theorem paired_get {α β : Type} {F : α → β → Prop} : ∀ {l₁ : List α} {l₂ : List β}, Paired F l₁ l₂ → ∀ {i : Nat} {a : α}, l₁[i]? = some a → ∃ b, l₂[i]? = some b ∧ F a b
  | _, _, .nil, i, a, h => by simp at h
  | _, _, .cons h t, 0, a, e => by simp at e; subst e; exact ⟨_, rfl, h⟩
  | _, _, .cons h t, i + 1, a, e => by simpa using paired_get t (by simpa using e)
theorem paired_get' {α β : Type} {F : α → β → Prop} : ∀ {l₁ : List α} {l₂ : List β}, Paired F l₁ l₂ → ∀ {i : Nat} {b : β}, l₂[i]? = some b → ∃ a, l₁[i]? = some a ∧ F a b
  | _, _, .nil, i, a, h => by simp at h
  | _, _, .cons h t, 0, a, e => by simp at e; subst e; exact ⟨_, rfl, h⟩
  | _, _, .cons h t, i + 1, a, e => by simpa using paired_get' t (by simpa using e)
theorem paired_append {α β : Type} {F : α → β → Prop} : ∀ {l₁ : List α} {l₂ : List β} {r₁ : List α} {r₂ : List β}, Paired F l₁ l₂ → Paired F r₁ r₂ → Paired F (l₁ ++ r₁) (l₂ ++ r₂)
  | _, _, _, _, .nil, h => h
  | _, _, _, _, .cons h t, r => .cons h (paired_append t r)
theorem paired_drop {α β : Type} {F : α → β → Prop} : ∀ {l₁ : List α} {l₂ : List β}, Paired F l₁ l₂ → ∀ n, Paired F (l₁.drop n) (l₂.drop n)
  | _, _, h, 0 => by simpa using h
  | _, _, .nil, n + 1 => .nil
  | _, _, .cons h t, n + 1 => by simpa using paired_drop t n
theorem paired_take {α β : Type} {F : α → β → Prop} : ∀ {l₁ : List α} {l₂ : List β}, Paired F l₁ l₂ → ∀ n, Paired F (l₁.take n) (l₂.take n)
  | _, _, h, 0 => by simpa using Paired.nil
  | _, _, .nil, n + 1 => by simpa using Paired.nil
  | _, _, .cons h t, n + 1 => by simpa using Paired.cons h (paired_take t n)
theorem paired_reverse {α β : Type} {F : α → β → Prop} : ∀ {l₁ : List α} {l₂ : List β}, Paired F l₁ l₂ → Paired F l₁.reverse l₂.reverse
  | _, _, .nil => .nil
  | _, _, .cons h t => by simpa using paired_append (paired_reverse t) (.cons h .nil)

section
variable {lo : Nat} {z₀ hc z z' h h' : Heap} {L : Addr} {m m' : Str → Option Value} {ms : List (Addr × Obj)}
theorem Fz.push (F : Fz lo z₀ hc z L m ms h) (o : Obj) (hf : o.isFreed = false := by rfl) : Fz lo z₀ hc z L m ms (h.push o) := (F.pushMut o hf).drop
theorem Fz.alloc (F : Fz lo z₀ hc z L m ms h) (o : Obj) (hf : o.isFreed = false := by rfl) : ∃ z', Fz lo z₀ hc z' L m ms (h.push o) ∧ z.StaysIn z' ∧ z'.get? h.objs.size = some o := (F.pushMut o hf).freeze
theorem Fz.fresh (F : Fz lo z₀ hc z L m ms h) : z.get? h.objs.size = none := F.keep.fresh
theorem Fz.pushAny (F : Fz lo z₀ hc z L m ms h) (o : Obj) : Fz lo z₀ hc z L m ms (h.push o) :=
  F.step ⟨stays_refl _, push_stays h o, stays_trans F.keep (push_stays h o), by rw [Heap.size_push]; exact Nat.le_succ _, fun _ _ e => .inr e⟩
theorem keptZ : KeptH (fun h => Fz lo z₀ hc z L m ms h) := fun h ob F => F.pushAny ob
end

section
variable {prog : Program} {w : World} {A : Around} {E : Value → Shared → Prop} {s : Shared} {env : Env} {lo : Nat} {z₀ hc z : Heap} {L : Addr} {m : Str → Option Value} {ms : List (Addr × Obj)}
theorem zNewF {M : Model} {vs : List Value} {Q : Value → Shared → Prop} (F : Fz lo z₀ hc z L m ms s.heap) (hsz : vs.length ≤ sizeLine)
    (h : ∀ a z' s', Fz lo z₀ hc z' L m ms s'.heap → z.StaysIn z' → z'.get? a = some (LO vs 0) → Like s s' → Q (.ref a) s') : wpAny M A (newList vs) Q E s := by
  refine wpAny_newObj_type ?_ (by show vs.toArray.size ≤ sizeLine; rw [List.size_toArray]; exact hsz)
  obtain ⟨z', F', hz, e⟩ := F.alloc (LO vs 0)
  exact h _ z' { s with heap := s.heap.push (LO vs 0) } F' hz e ⟨rfl, rfl, rfl⟩
theorem zNewM {M : Model} {vs : List Value} {Q : Value → Shared → Prop} (F : Fz lo z₀ hc z L m ms s.heap) (hsz : vs.length ≤ sizeLine)
    (h : ∀ a s', Fz lo z₀ hc z L m ((a, LO vs 0) :: ms) s'.heap → Like s s' → Q (.ref a) s') : wpAny M A (newList vs) Q E s := by
  refine wpAny_newObj_type ?_ (by show vs.toArray.size ≤ sizeLine; rw [List.size_toArray]; exact hsz)
  exact h _ { s with heap := s.heap.push (LO vs 0) } (F.pushMut (LO vs 0)) ⟨rfl, rfl, rfl⟩
theorem zTup {M : Model} {vs : List Value} {Q : Value → Shared → Prop} (F : Fz lo z₀ hc z L m ms s.heap) (hsz : vs.length ≤ sizeLine)
    (h : ∀ a z' s', Fz lo z₀ hc z' L m ms s'.heap → z.StaysIn z' → z'.get? a = some (TO vs 0) → Like s s' → Q (.ref a) s') : wpAny M A (newTuple vs) Q E s := by
  refine wpAny_newObj_type ?_ (by show vs.toArray.size ≤ sizeLine; rw [List.size_toArray]; exact hsz)
  obtain ⟨z', F', hz, e⟩ := F.alloc (TO vs 0)
  exact h _ z' { s with heap := s.heap.push (TO vs 0) } F' hz e ⟨rfl, rfl, rfl⟩
theorem zAddL {a b : Addr} {xs ys : List Value} {k k' : Nat} {Q : Value → Shared → Prop} (F : Fz lo z₀ hc z L m ms s.heap) (ha : s.heap.get? a = some (LO xs k)) (hb : s.heap.get? b = some (LO ys k')) (hsz : xs.length + ys.length ≤ sizeLine)
    (h : ∀ c z' s', Fz lo z₀ hc z' L m ms s'.heap → z.StaysIn z' → z'.get? c = some (LO (xs ++ ys) 0) → Like s s' → Q (.ref c) s') : wpAny (model prog w) A (binaryOp .Add (.ref a) (.ref b)) Q E s := by
  refine P.add_list (items := xs.toArray) (items2 := ys.toArray) ha hb ?_ (by simpa using hsz)
  obtain ⟨z', F', hz, e⟩ := F.alloc (LO (xs ++ ys) 0)
  have := h _ z' { s with heap := s.heap.push (LO (xs ++ ys) 0) } F' hz e ⟨rfl, rfl, rfl⟩
  simpa [LO] using this
theorem zIterL {l : Addr} {its : List Value} {k : Nat} {Q : Value → Shared → Prop} (F : Fz lo z₀ hc z L m ms s.heap) (hl : z.get? l = some (LO its k)) (hh : A.handled = none)
    (h : ∀ I o s', Walks prog w A I [I, l] [I] its.length (fun i v => its[i]? = some v) (fun i h => h.IsListIter I l i ∧ h.IsList l its.toArray) → Own I [I, l] [I] (fun i h => h.IsListIter I l i ∧ h.IsList l its.toArray) z →
      Fz lo z₀ hc z L m ((I, o) :: ms) s'.heap → (s'.heap.IsListIter I l 0 ∧ s'.heap.IsList l its.toArray) → Like s s' → Q (.ref I) s') : wpAny (model prog w) A (pyIter (.ref l)) Q E s := by
  have hL : s.heap.IsList l its.toArray := ⟨_, F.keep _ _ hl, rfl, k, rfl⟩
  refine wpAny_pyIter_list hL ?_
  have F' := F.pushMut { cls := .type "list_iterator", data := .fields #[.ref l, .int 0 0] }
  have hne : l ≠ s.heap.objs.size := ne_of_get hl F.fresh
  have W := Walks.list (prog := prog) (w := w) (A := A) hh s.heap.objs.size l hne its.toArray
  simp only [List.size_toArray, List.getElem?_toArray] at W
  refine h _ _ { s with heap := s.heap.push { cls := .type "list_iterator", data := .fields #[.ref l, .int 0 0] } } W ⟨by simp, ?_, ?_⟩ F' ⟨⟨_, Heap.get?_push_size _ rfl, rfl, rfl⟩, hL.push _⟩ ⟨rfl, rfl, rfl⟩
  · intro b hb
    simp only [List.mem_cons, List.not_mem_nil, or_false] at hb
    exact hb.imp id fun e => ⟨_, e ▸ hl⟩
  · rintro i h ⟨⟨o, ho, _⟩, _⟩; exact ⟨o, ho⟩

theorem zForL {x : Str} {px : Pos} {body : List Stmt} {l : Addr} {its : List Value} {k : Nat} {Q : Flow → Shared → Prop} (hh : A.handled = none) (F : Fz lo z₀ hc z L m ms s.heap) (hl : z.get? l = some (LO its k))
    (J : Nat → Heap → (Str → Option Value) → List (Addr × Obj) → Prop) (h0 : J 0 z m ms)
    (turn : ∀ I i v z' m' ms' o' s' E', i < its.length → its[i]? = some v → z.StaysIn z' → J i z' m' ms' → Fz lo z₀ hc z' L (upd m' x v) ((I, o') :: ms') s'.heap → Like s s' →
      wpAny (model prog w) A (execs body env) (fun f s'' => (f = .next ∨ f = .cont) ∧ ∃ z'' m'' ms'', Fz lo z₀ hc z'' L m'' ((I, o') :: ms'') s''.heap ∧ z'.StaysIn z'' ∧ J (i + 1) z'' m'' ms'' ∧ Like s s'') E' s')
    (done : ∀ z' m' ms' s', z.StaysIn z' → J its.length z' m' ms' → Fz lo z₀ hc z' L m' ms' s'.heap → Like s s' → Q .next s')
    (hL : env.locals = L := by rfl) (hx : env.kindOf x = some .local := by rfl) (hp : (env.scope.kind == .class || (env.scope.kind == .module && env.locals != env.globals)) = false := by rfl)
    (ht : ∀ I v, letOwnedTupleGo (.Name x px) (.ref I) v = pure () := by intro _ _; rfl) :
    wpAny (model prog w) A (pyIter (.ref l)) (fun it s₂ => codeAny (model prog w) A (.forLoop (.Name x px) it body [] env) (fun r s' => match r with | .ok f => Q f s' | .error e => cameBackBy (model prog w) A env E e s') s₂) E s := by
  refine zIterL F hl hh fun I o s' W O F' st lk => ?_
  refine zForLoop W O F' st J h0 (fun i v z' m' ms' o' s'' E' hi hP hz hJ F'' l'' => ?_) (fun z' m' ms' s'' hz hJ F'' l'' => done z' m' ms' s'' hz hJ F'' (lk.trans l'')) hL hx hp (ht I)
  refine wpAny_mono (turn I i v z' m' ms' o' s'' E' hi hP hz hJ F'' (lk.trans l'')) (fun f s₃ q => ?_) fun _ _ y => y
  obtain ⟨hf, z₃, m₃, ms₃, F₃, hz₃, hJ₃, l₃⟩ := q
  exact ⟨hf, z₃, m₃, ms₃, F₃, hz₃, hJ₃, ⟨l₃.1.trans lk.1.symm, l₃.2.1.trans lk.2.1.symm, l₃.2.2.trans lk.2.2.symm⟩⟩
end

/-! reading data, == and in -/
def RD (z : Heap) (v : Value) (d : PyData) : Prop := ∃ as, Reads z v d as
theorem rd_mono {z z' : Heap} {v : Value} {d : PyData} (k : z.StaysIn z') (h : RD z v d) : RD z' v d := let ⟨as, r⟩ := h; ⟨as, Reads.keeps k r⟩
def dInts (xs : List Int) : PyData := .list (xs.map .int)
def dNats (xs : List Nat) : PyData := .list (xs.map fun (n : Nat) => PyData.int n)
def dStr (l : List Nat) : PyData := .str (tS l)
theorem readsAll_of {α : Type} {z : Heap} {R : Value → α → Prop} {f : α → PyData} (hR : ∀ v x, R v x → RD z v (f x)) : ∀ {its : List Value} {xs : List α}, Paired R its xs → ∃ as, ReadsAll z its (xs.map f) as
  | _, _, .nil => ⟨[], .nil⟩
  | _, _, .cons h t => let ⟨as, r⟩ := hR _ _ h; let ⟨bs, q⟩ := readsAll_of hR t; ⟨as ++ bs, .cons r q⟩
theorem rd_list {α : Type} {z : Heap} {R : Heap → Value → α → Prop} {f : α → PyData} (hR : ∀ v x, R z v x → RD z v (f x)) {v : Value} {xs : List α} (h : LstOf R z v xs) : RD z v (.list (xs.map f)) := by
  obtain ⟨a, its, k, rfl, ho, p⟩ := h
  obtain ⟨as, r⟩ := readsAll_of hR p
  exact ⟨a :: as, .list ho rfl rfl (by simpa using r)⟩
theorem rd_tup {α : Type} {z : Heap} {R : Heap → Value → α → Prop} {f : α → PyData} (hR : ∀ v x, R z v x → RD z v (f x)) {v : Value} {xs : List α} (h : TupOf R z v xs) : RD z v (.tuple (xs.map f)) := by
  obtain ⟨a, its, k, rfl, ho, p⟩ := h
  obtain ⟨as, r⟩ := readsAll_of hR p
  exact ⟨as, .tuple ho rfl rfl (by simpa using r)⟩
theorem rd_int {z : Heap} {v : Value} {n : Int} (h : RInt z v n) : RD z v (.int n) := by obtain ⟨t, rfl⟩ := h; exact ⟨_, .int _ _⟩
theorem rd_nat {z : Heap} {v : Value} {n : Nat} (h : RNat z v n) : RD z v (.int n) := by obtain ⟨t, rfl⟩ := h; exact ⟨_, .int _ _⟩
theorem rd_str {z : Heap} {v : Value} {l : List Nat} (h : RStr z v l) : RD z v (.str (tS l)) := by obtain ⟨t, rfl⟩ := h; exact ⟨_, .str _ _⟩

theorem eqv_list_map {α : Type} [DecidableEq α] {f : α → PyData} (hf : ∀ x y, PyData.eqv (f x) (f y) = decide (x = y)) : ∀ (xs ys : List α), PyData.eqvAll (xs.map f) (ys.map f) = decide (xs = ys)
  | [], [] => by simp [PyData.eqvAll]
  | [], _ :: _ => by simp [PyData.eqvAll]
  | _ :: _, [] => by simp [PyData.eqvAll]
  | x :: xs, y :: ys => by
    simp only [List.map_cons, PyData.eqvAll, hf, eqv_list_map hf xs ys, List.cons.injEq]
    by_cases h1 : x = y <;> by_cases h2 : xs = ys <;> simp [h1, h2]
theorem eqv_nat (x y : Nat) : PyData.eqv (.int x) (.int y) = decide (x = y) := by
  simp only [PyData.eqv]
  by_cases h : x = y
  · subst h; simp
  · have : ¬ ((x : Int) = y) := by omega
    simp [h, this]
theorem tS_inj {a b : List Nat} (h : tS a = tS b) : a = b := by
  have := congrArg (fun s => s.cps.toList) h
  simpa [tS] using this
theorem eqv_str (x y : List Nat) : PyData.eqv (.str (tS x)) (.str (tS y)) = decide (x = y) := by
  simp only [PyData.eqv]
  by_cases h : x = y
  · subst h; simp
  · have : ¬ (tS x = tS y) := fun e => h (tS_inj e)
    simp [h, this]
theorem eqv_nats (xs ys : List Nat) : PyData.eqv (.list (xs.map fun (n : Nat) => PyData.int n)) (.list (ys.map fun (n : Nat) => PyData.int n)) = decide (xs = ys) := by
  rw [PyData.eqv]; exact eqv_list_map (fun x y => eqv_nat x y) xs ys
theorem canLay_map {α : Type} {f : α → PyData} (hf : ∀ x, (f x).canLay0 = true) : ∀ xs : List α, PyData.canLayAll0 (xs.map f) = true
  | [] => rfl
  | x :: xs => by simp [PyData.canLayAll0, hf x, canLay_map hf xs]
theorem depth_map {α : Type} {f : α → PyData} {n : Nat} (hf : ∀ x, (f x).depth ≤ n) : ∀ xs : List α, PyData.depthAll (xs.map f) ≤ n
  | [] => by simp [PyData.depthAll]
  | x :: xs => by simp only [List.map_cons, PyData.depthAll]; exact Nat.max_le.mpr ⟨hf x, depth_map hf xs⟩

section
variable {prog : Program} {w : World} {A : Around} {E : Value → Shared → Prop} {s : Shared} {env : Env} {lo : Nat} {z₀ hc z : Heap} {L : Addr} {m : Str → Option Value} {ms : List (Addr × Obj)}
theorem zEqD {a b : Value} {da db : PyData} {n : Nat} {Q : Value → Shared → Prop} (hA : Rm A n) (hz : z.StaysIn s.heap) (ra : RD z a da) (rb : RD z b db) (ha : da.canLay0 = true) (hb : db.canLay0 = true) (hd : da.depth ≤ 5) (h : Q (.bool (PyData.eqv da db)) s) :
    wpAny (model prog w) A (compareOp .Eq a b) Q E s := by
  obtain ⟨as, ra⟩ := ra; obtain ⟨bs, rb⟩ := rb
  refine SeqAt.compareEq_reads (Reads.keeps hz ra) (Reads.keeps hz rb) ha hb ?_ h
  have := hA.units
  have : min da.depth db.depth ≤ 5 := Nat.le_trans (Nat.min_le_left _ _) hd
  omega
theorem zNeD {a b : Value} {da db : PyData} {n : Nat} {Q : Value → Shared → Prop} (hA : Rm A n) (hz : z.StaysIn s.heap) (ra : RD z a da) (rb : RD z b db) (ha : da.canLay0 = true) (hb : db.canLay0 = true) (hd : da.depth ≤ 5) (h : Q (.bool (!PyData.eqv da db)) s) :
    wpAny (model prog w) A (compareOp .NotEq a b) Q E s := by
  obtain ⟨as, ra⟩ := ra; obtain ⟨bs, rb⟩ := rb
  refine SeqAt.compareNe_reads (Reads.keeps hz ra) (Reads.keeps hz rb) ha hb ?_ h
  have := hA.units
  have : min da.depth db.depth ≤ 5 := Nat.le_trans (Nat.min_le_left _ _) hd
  omega
theorem zInD {x c : Value} {d : PyData} {xs : List PyData} {n : Nat} {Q : Value → Shared → Prop} (hA : Rm A n) (hz : z.StaysIn s.heap) (rc : RD z c (.tuple xs)) (rx : RD z x d) (hxs : PyData.canLayAll0 xs = true) (hd : d.canLay0 = true) (hdd : d.depth ≤ 5)
    (h : Q (.bool (xs.any fun y => PyData.eqv y d)) s) : wpAny (model prog w) A (compareOp .In x c) Q E s := by
  obtain ⟨as, rc⟩ := rc; obtain ⟨bs, rx⟩ := rx
  refine SeqAt.in_tuple_reads (Reads.keeps hz rc) (Reads.keeps hz rx) hxs hd ?_ h
  have := hA.units
  have : min (PyData.depthAll xs) d.depth ≤ 5 := Nat.le_trans (Nat.min_le_right _ _) hdd
  omega
end

def meant1 (c : Nat) : List Nat := if c = 174 ∨ c = 175 then [33, c - 128] else [c]
def meant (cs : List Nat) : List Nat := cs.flatMap meant1
theorem meant_len : ∀ cs : List Nat, (meant cs).length ≤ 2 * cs.length
  | [] => by simp [meant]
  | c :: cs => by
    have := meant_len cs
    have h1 : (meant1 c).length ≤ 2 := by unfold meant1; split <;> simp
    simp only [meant, List.flatMap_cons, List.length_append, List.length_cons] at this ⊢
    omega
section
variable {prog : Program} {w : World} {A : Around} {E : Value → Shared → Prop} {s : Shared} {z : Heap} {mg mb : Str → Option Value}
set_option maxHeartbeats 0
theorem meant_spec {v : Value} {cs : List Nat} {Q : Value → Shared → Prop} (Am : Amb (KK w) mg mb z) (hz : z.StaysIn s.heap) (hA : Rm A 1) (hv : LstOf RNat z v cs) (hn : cs.length ≤ 1000)
    (hQ : ∀ z' s' r, Step z s.heap z' s'.heap → Like s s' → LstOf RNat z' r (meant cs) → Q r s') : wpAny (model prog w) A (call (.ref 171) [v]) Q E s := by
  obtain ⟨a, its, k, rfl, ho, hp⟩ := hv
  have hlen : its.length = cs.length := hp.length
  refine zDef (binds := [(Str.ofString "codes", .ref a)]) Am hz hA rfl rfl rfl rfl ?_
  intro L s₁ E' A' F l R
  repeat' walk_at "z1"
  refine zNewF (by assumption) (by decide) ?_
  intro b z₁ s₂ F₁ hz₁ hb l₂
  repeat' walk_at "z1"
  refine zForL R.handled (by assumption) (hz₁ _ _ ho)
    (fun i z' m' ms' => ms' = [] ∧ ∃ r, m' (Str.ofString "row") = some r ∧ LstOf RNat z' r (meant (cs.take i))) ⟨rfl, _, upd_same, ⟨b, [], 0, rfl, hb, .nil⟩⟩ ?_ ?_
  · intro I i v z' m' ms' o' s' E' hi hv hz' hJ F' l'
    obtain ⟨rfl, r, hr, hrow⟩ := hJ
    obtain ⟨c, hc, ⟨t, rfl⟩⟩ := paired_get hp hv
    obtain ⟨ar, rs, kr, rfl, hor, hpr⟩ := hrow
    have hcl : (meant (cs.take i)).length ≤ 2000 := by
      have h1 := meant_len (cs.take i)
      have h2 : (cs.take i).length ≤ cs.length := by simp; omega
      omega
    have hrl : rs.length ≤ 2000 := by rw [hpr.length]; exact hcl
    have hcs : cs.take (i + 1) = cs.take i ++ [c] := by rw [List.take_add_one, hc]; rfl
    repeat' walk_at "z1"
    refine zTup (by assumption) (by walk_at "zsz") ?_
    intro tb z₂ s₂ F₂ hz₂ htb l₂
    refine zInD R F₂.keep (xs := [.int 174, .int 175]) ⟨_, .tuple htb rfl rfl (.cons (.int _ _) (.cons (.int _ _) .nil))⟩ ⟨_, .int _ _⟩ rfl rfl (Nat.zero_le _) ?_
    repeat' walk_at "z1"
    refine iteB (fun h1 => ?_) (fun h1 => ?_)
    · have h1 : c = 174 ∨ c = 175 := by simp [PyData.eqv] at h1; omega
      repeat' walk_at "z1"
      refine zNewF (by assumption) (by walk_at "zsz") ?_
      intro d z₃ s₃ F₃ hz₃ hd l₃
      refine zAddL (by assumption) (F₃.keep _ _ (hz₃ _ _ (hz₂ _ _ hor))) (F₃.keep _ _ hd) (by walk_at "zsz") ?_
      intro e z₄ s₄ F₄ hz₄ he l₄
      repeat' walk_at "z1"
      refine ⟨.inl rfl, _, _, _, by assumption, stays_trans hz₂ (stays_trans hz₃ hz₄), ⟨rfl, _, upd_same, ⟨e, _, 0, rfl, he, ?_⟩⟩, by walk_at "like"⟩
      rw [hcs]
      have e1 : meant (cs.take i ++ [c]) = meant (cs.take i) ++ [33, c - 128] := by simp [meant, meant1, h1]
      rw [e1]
      exact paired_append hpr (.cons ⟨_, rfl⟩ (.cons ⟨_, by rw [show ((c - 128 : Nat) : Int) = (c : Int) - 128 by omega]⟩ .nil))
    · have h1 : ¬ (c = 174 ∨ c = 175) := by simp [PyData.eqv] at h1; omega
      repeat' walk_at "z1"
      refine zNewF (by assumption) (by walk_at "zsz") ?_
      intro d z₃ s₃ F₃ hz₃ hd l₃
      refine zAddL (by assumption) (F₃.keep _ _ (hz₃ _ _ (hz₂ _ _ hor))) (F₃.keep _ _ hd) (by walk_at "zsz") ?_
      intro e z₄ s₄ F₄ hz₄ he l₄
      repeat' walk_at "z1"
      refine ⟨.inl rfl, _, _, _, by assumption, stays_trans hz₂ (stays_trans hz₃ hz₄), ⟨rfl, _, upd_same, ⟨e, _, 0, rfl, he, ?_⟩⟩, by walk_at "like"⟩
      rw [hcs]
      have e1 : meant (cs.take i ++ [c]) = meant (cs.take i) ++ [c] := by simp [meant, meant1, h1]
      rw [e1]
      exact paired_append hpr (.cons ⟨_, rfl⟩ .nil)
  · intro z' m' ms' s' hz' hJ F' l'
    obtain ⟨rfl, r, hr, hrow⟩ := hJ
    rw [hlen, List.take_length] at hrow
    repeat' walk_at "z1"
    exact hQ _ _ _ (Fz.done (by assumption)) (by walk_at "like") hrow
end

theorem tS_append (a b : List Nat) : tS a ++ tS b = tS (a ++ b) := by
  show (⟨a.toArray ++ b.toArray⟩ : Str) = ⟨(a ++ b).toArray⟩
  simp
theorem tS_len (a : List Nat) : (tS a).length = a.length := by show (a.toArray).size = _; simp
theorem fmodN (a b : Nat) : (a : Int).fmod b = ((a % b : Nat) : Int) := by rw [Int.fmod_eq_emod_of_nonneg _ (by omega)]; simp
theorem fdivN (a b : Nat) : (a : Int).fdiv b = ((a / b : Nat) : Int) := by rw [Int.fdiv_eq_ediv_of_nonneg _ (by omega)]; simp
def drawn (cs : List Nat) : List Nat := cs.flatMap pic
theorem pic_len (c : Nat) : (pic c).length ≤ 3 := by unfold pic; split <;> split <;> (try split) <;> (try split) <;> simp
theorem drawn_len : ∀ cs : List Nat, (drawn cs).length ≤ 3 * cs.length
  | [] => by simp [drawn]
  | c :: cs => by
    have := drawn_len cs
    have h1 := pic_len c
    simp only [drawn, List.flatMap_cons, List.length_append, List.length_cons] at this ⊢
    omega
theorem drawn_snoc (a : List Nat) (c : Nat) : drawn (a ++ [c]) = drawn a ++ pic c := by simp [drawn]
theorem letters_at : ∀ n < 32, (Str.ofString "@ABCDEFGHIJKLMNOPQRSTUVWXYZ[\\]^_").cps[n]? = some (n + 64) := by decide +kernel
section
variable {prog : Program} {w : World} {A : Around} {E : Value → Shared → Prop} {s : Shared} {z : Heap} {mg mb : Str → Option Value}
set_option maxHeartbeats 0
theorem zIaddS {M : Program} {a b : List Nat} {t u : Tok} {x y : Str} {Q : Value → Shared → Prop} (hx : x = tS a) (hy : y = tS b) (hsz : a.length + b.length ≤ sizeLine) (h : ∀ t' tk, Q (.str (tS (a ++ b)) t') { s with toks := tk }) :
    wpAny (model prog w) A (inplaceOp .Add (.str x t) (.str y u)) Q E s := by
  subst hx hy
  refine Rows.iadd_str (fun t' tk => ?_) (by rw [tS_len, tS_len]; exact hsz)
  rw [tS_append]; exact h t' tk
theorem zAddS {a b : List Nat} {t u : Tok} {x y : Str} {Q : Value → Shared → Prop} (hx : x = tS a) (hy : y = tS b) (hsz : a.length + b.length ≤ sizeLine) (h : ∀ t' tk, Q (.str (tS (a ++ b)) t') { s with toks := tk }) :
    wpAny (model prog w) A (binaryOp .Add (.str x t) (.str y u)) Q E s := by
  subst hx hy
  refine Rows.add_str (fun t' tk => ?_) (by rw [tS_len, tS_len]; exact hsz)
  rw [tS_append]; exact h t' tk
theorem zModN {a : Nat} {b : Int} {t u : Tok} {k : Nat} {Q : Value → Shared → Prop} (hb : b = (k : Int)) (hk : k ≠ 0) (h : Q (.int ((a % k : Nat) : Int) s.toks) { s with toks := s.toks + 1 }) :
    wpAny (model prog w) A (binaryOp .Mod (.int (a : Int) t) (.int b u)) Q E s := by
  subst hb
  refine mod_int' (by omega) ?_
  rw [fmodN]; exact h
theorem zStrAt {value slice : Expr} {x : Str} {t u : Tok} {n c : Nat} {Q : Value → Shared → Prop} (hn : n < 1000) (hc : x.cps[n]? = some c) (h : Q (.str (tS [c]) s.toks) { s with toks := s.toks + 1 })
    (hs : subscripted slice false (.str x t) (.int n u) = operate [.str x t, .int n u] (getItem (.str x t) (.int n u)) := by with_unfolding_all rfl)
    (ht : ∀ r, letTemporaryGo value (.str x t) r = pure () := by intro _; with_unfolding_all rfl) :
    wpAny (model prog w) A (subscriptTail value slice (.str x t) (.int n u)) Q E s := by
  have hlt : n < x.length := (Array.getElem?_eq_some_iff.mp hc).1
  refine item_str (by simp [fitsSsize]; omega) (by omega) (by omega) (fun _ => ?_) hs ht
  have e : Txt.item x n = tS [c] := by
    have h1 : seqIndex? (n : Int) x.length = some n := by
      have hn' : ¬ ((n : Int) < 0) := by omega
      have h0 : (0 : Int) ≤ n := by omega
      simp [seqIndex?, hn', hlt]
    have h2 : Txt.charAt x n = some c := by unfold Txt.charAt; rw [h1]; exact hc
    unfold Txt.item; rw [h2]; rfl
  rw [e]; exact h
theorem drawn_spec {v : Value} {cs : List Nat} {Q : Value → Shared → Prop} (Am : Amb (KK w) mg mb z) (hz : z.StaysIn s.heap) (hA : Rm A 1) (hv : LstOf RNat z v cs) (hn : cs.length ≤ 3000) (hb : ∀ c ∈ cs, c < 256)
    (hQ : ∀ z' s' t, Step z s.heap z' s'.heap → Like s s' → Q (.str (tS (drawn cs)) t) s') : wpAny (model prog w) A (call (.ref 183) [v]) Q E s := by
  obtain ⟨a, its, k, rfl, ho, hp⟩ := hv
  have hlen : its.length = cs.length := hp.length
  refine zDef (binds := [(Str.ofString "codes", .ref a)]) Am hz hA rfl rfl rfl rfl ?_
  intro L s₁ E' A' F l R
  repeat' walk_at "z1"
  refine zForL R.handled (by assumption) ho
    (fun i z' m' ms' => ms' = [] ∧ ∃ t, m' (Str.ofString "drawn") = some (.str (tS (drawn (cs.take i))) t)) ⟨rfl, _, upd_same⟩ ?_ ?_
  · intro I i v z' m' ms' o' s' E' hi hv hz' hJ F' l'
    obtain ⟨rfl, td, hr⟩ := hJ
    have Am := Am.mono hz'
    obtain ⟨c, hc, ⟨t, rfl⟩⟩ := paired_get hp hv
    have hcb : c < 256 := hb c (List.mem_of_getElem? hc)
    have hcl : (drawn (cs.take i)).length ≤ 9000 := by
      have h1 := drawn_len (cs.take i)
      have h2 : (cs.take i).length ≤ cs.length := by simp; omega
      omega
    have hcs : cs.take (i + 1) = cs.take i ++ [c] := by rw [List.take_add_one, hc]; rfl
    repeat' walk_at "z1"
    refine iteB (fun h1 => ?_) (fun h1 => ?_)
    · have h1 : c > 127 := by simp at h1; omega
      repeat' walk_at "z1"
      refine zIaddS (M := prog) (b := [33]) rfl (by decide) (by walk_at "zsz") ?_
      intro t' tk
      repeat' walk_at "z1"
      refine iteB (fun h2 => ?_) (fun h2 => ?_)
      · simp at h2; omega
      have h2 : ¬ c = 127 := by simp at h2; omega
      repeat' walk_at "z1"
      refine zModN (k := 128) rfl (by decide) ?_
      repeat' walk_at "z1"
      refine iteB (fun h3 => ?_) (fun h3 => ?_)
      · have h3 : c % 128 = 127 := by have := eq_of_beq h3; omega
        repeat' walk_at "z1"
        refine chr_of_range (i := 159) (by decide) (by decide) ?_
        refine zAddS (a := [94]) (b := [159]) (by decide) (by decide) (by walk_at "zsz") ?_
        intro t' tk
        refine zIaddS (M := prog) (b := [94, 159]) rfl rfl (by walk_at "zsz") ?_
        intro t' tk
        repeat' walk_at "z1"
        refine ⟨.inl rfl, _, _, _, by assumption, stays_refl _, ⟨rfl, ?_⟩, by walk_at "like"⟩
        rw [hcs, drawn_snoc, show pic c = [33] ++ [94, 159] by simp [pic, h1, h2, h3]]; rw [← List.append_assoc]; exact ⟨_, upd_same⟩
      have h3 : ¬ c % 128 = 127 := by intro e; rw [e] at h3; simp at h3
      repeat' walk_at "z1"
      refine zModN (k := 128) rfl (by decide) ?_
      repeat' walk_at "z1"
      refine iteB (fun h4 => ?_) (fun h4 => ?_)
      · have h4 : c % 128 < 32 := by have := of_decide_eq_true h4; omega
        repeat' walk_at "z1"
        refine zModN (k := 128) rfl (by decide) ?_
        refine zStrAt (by omega) (letters_at _ h4) ?_
        refine zAddS (a := [94]) (b := [c % 128 + 64]) (by decide) rfl (by walk_at "zsz") ?_
        intro t' tk
        refine zIaddS (M := prog) (b := [94, c % 128 + 64]) rfl rfl (by walk_at "zsz") ?_
        intro t' tk
        repeat' walk_at "z1"
        refine ⟨.inl rfl, _, _, _, by assumption, stays_refl _, ⟨rfl, ?_⟩, by walk_at "like"⟩
        rw [hcs, drawn_snoc, show pic c = [33] ++ [94, c % 128 + 64] by simp [pic, h1, h2, h3, h4]]; rw [← List.append_assoc]; exact ⟨_, upd_same⟩
      have h4 : ¬ c % 128 < 32 := by have := of_decide_eq_false h4; omega
      repeat' walk_at "z1"
      refine zModN (k := 128) rfl (by decide) ?_
      repeat' walk_at "z1"
      refine chr_of_range (i := ((c % 128 : Nat) : Int)) (by omega) (by omega) ?_
      refine zIaddS (M := prog) (b := [c % 128]) rfl rfl (by walk_at "zsz") ?_
      intro t' tk
      repeat' walk_at "z1"
      refine ⟨.inl rfl, _, _, _, by assumption, stays_refl _, ⟨rfl, ?_⟩, by walk_at "like"⟩
      rw [hcs, drawn_snoc, show pic c = [33] ++ [c % 128] by simp [pic, h1, h2, h3, h4]]; rw [← List.append_assoc]; exact ⟨_, upd_same⟩
    · have h1 : ¬ c > 127 := by simp at h1; omega
      repeat' walk_at "z1"
      refine iteB (fun h2 => ?_) (fun h2 => ?_)
      · have h2 : c = 127 := by simp at h2; omega
        repeat' walk_at "z1"
        refine zIaddS (M := prog) (b := [94, 63]) rfl (by decide) (by walk_at "zsz") ?_
        intro t' tk
        repeat' walk_at "z1"
        refine ⟨.inl rfl, _, _, _, by assumption, stays_refl _, ⟨rfl, ?_⟩, by walk_at "like"⟩
        rw [hcs, drawn_snoc, show pic c = [94, 63] by rw [h2]; decide]; exact ⟨_, upd_same⟩
      have h2 : ¬ c = 127 := by simp at h2; omega
      repeat' walk_at "z1"
      refine zModN (k := 128) rfl (by decide) ?_
      repeat' walk_at "z1"
      refine iteB (fun h3 => ?_) (fun h3 => ?_)
      · have h3 : c % 128 = 127 := by have := eq_of_beq h3; omega
        repeat' walk_at "z1"
        refine chr_of_range (i := 159) (by decide) (by decide) ?_
        refine zAddS (a := [94]) (b := [159]) (by decide) (by decide) (by walk_at "zsz") ?_
        intro t' tk
        refine zIaddS (M := prog) (b := [94, 159]) rfl rfl (by walk_at "zsz") ?_
        intro t' tk
        repeat' walk_at "z1"
        refine ⟨.inl rfl, _, _, _, by assumption, stays_refl _, ⟨rfl, ?_⟩, by walk_at "like"⟩
        rw [hcs, drawn_snoc, show pic c = [94, 159] by simp [pic, h1, h2, h3]]; exact ⟨_, upd_same⟩
      have h3 : ¬ c % 128 = 127 := by intro e; rw [e] at h3; simp at h3
      repeat' walk_at "z1"
      refine zModN (k := 128) rfl (by decide) ?_
      repeat' walk_at "z1"
      refine iteB (fun h4 => ?_) (fun h4 => ?_)
      · have h4 : c % 128 < 32 := by have := of_decide_eq_true h4; omega
        repeat' walk_at "z1"
        refine zModN (k := 128) rfl (by decide) ?_
        refine zStrAt (by omega) (letters_at _ h4) ?_
        refine zAddS (a := [94]) (b := [c % 128 + 64]) (by decide) rfl (by walk_at "zsz") ?_
        intro t' tk
        refine zIaddS (M := prog) (b := [94, c % 128 + 64]) rfl rfl (by walk_at "zsz") ?_
        intro t' tk
        repeat' walk_at "z1"
        refine ⟨.inl rfl, _, _, _, by assumption, stays_refl _, ⟨rfl, ?_⟩, by walk_at "like"⟩
        rw [hcs, drawn_snoc, show pic c = [94, c % 128 + 64] by simp [pic, h1, h2, h3, h4]]; exact ⟨_, upd_same⟩
      have h4 : ¬ c % 128 < 32 := by have := of_decide_eq_false h4; omega
      repeat' walk_at "z1"
      refine zModN (k := 128) rfl (by decide) ?_
      repeat' walk_at "z1"
      refine chr_of_range (i := ((c % 128 : Nat) : Int)) (by omega) (by omega) ?_
      refine zIaddS (M := prog) (b := [c % 128]) rfl rfl (by walk_at "zsz") ?_
      intro t' tk
      repeat' walk_at "z1"
      refine ⟨.inl rfl, _, _, _, by assumption, stays_refl _, ⟨rfl, ?_⟩, by walk_at "like"⟩
      rw [hcs, drawn_snoc, show pic c = [c % 128] by simp [pic, h1, h2, h3, h4]]; exact ⟨_, upd_same⟩
  · intro z' m' ms' s' hz' hJ F' l'
    obtain ⟨rfl, t, hr⟩ := hJ
    rw [hlen, List.take_length] at hr
    repeat' walk_at "z1"
    exact hQ _ _ _ (Fz.done (by assumption)) (by walk_at "like")
end

section
variable {prog : Program} {w : World} {A : Around} {E : Value → Shared → Prop} {s : Shared} {env : Env} {lo : Nat} {z₀ hc z : Heap} {L : Addr} {m : Str → Option Value} {ms : List (Addr × Obj)}
theorem zListComp {M : Model} {elt iter : Expr} {x : Str} {px : Pos} {ifs : List Expr} {scope : Scope} {cl : List (Str × Addr)} {pos : Pos} {Q : Value → Shared → Prop}
    (hclos : closureFor scope env = pure cl)
    (h : wpAny M A (eval iter env) (fun xv s₁ => wpAny M A (pyIter xv) (fun it s₂ => wpAny M A (newList []) (fun acc s₃ => wpAny M A (newFunctionEnv scope env.globals cl [] env.qual none .none (some env)) (fun cenv s₄ =>
      codeAny M A (.compStart (.ListComp elt [⟨.Name x px, iter, ifs, 0⟩] scope pos) 0 it acc { cenv with scope := relabel scope env }) (compPost M A E none Q acc cenv.locals) s₄) E s₃) E s₂) E s₁) E s)
    (hkind : scope.kind = .function := by rfl) (hnames : ∀ y ∈ scope.names, y.2 = .local → scope.names.lookup y.1 = some .local := by decide)
    (hs : ∀ x, foldedSetIterable iter env x = pure x := by intro _; rfl) : wpAny M A (eval (.ListComp elt [⟨.Name x px, iter, ifs, 0⟩] scope pos) env) Q E s := by
  rw [eval_ListComp]
  exact wpAny_comprehension_free (use := none) rfl hs hclos hkind hnames h

theorem zCompRun {elt iter : Expr} {x : Str} {px : Pos} {ifs : List Expr} {scope : Scope} {cl : List (Str × Addr)} {pos : Pos} {Q : Value → Shared → Prop}
    {I : Addr} {o : Obj} {fp wr : List Addr} {n : Nat} {P : Nat → Value → Prop} {St : Nat → Heap → Prop}
    (W : Walks prog w A I fp wr n P St) (O : Own I fp wr St z) (F : Fz lo z₀ hc z L m ((I, o) :: ms) s.heap) (hst : St 0 s.heap) (hsz : n ≤ sizeLine)
    (J : Nat → Heap → List Value → Prop) (h0 : J 0 z []) (hmono : ∀ z z' ys, z.StaysIn z' → J n z ys → J n z' ys)
    (turn : ∀ i v z' ys C mc s' E' loC hcC, i < n → P i v → z.StaysIn z' → J i z' ys → Fz loC z' hcC z' C (upd mc x v) [] s'.heap → Like s s' →
      wpAny (model prog w) A (forIn ifs true fun c r => if r = true then do let ok ← isTrue c (compEnvC scope cl C env) (eval c (compEnvC scope cl C env)); pure (ForInStep.yield ok) else pure (ForInStep.yield r))
        (fun ok s₃ => if ok = true then wpAny (model prog w) A (eval elt (compEnvC scope cl C env)) (fun y s₄ => ∃ z'' m'', Fz loC z' hcC z'' C m'' [] s₄.heap ∧ J (i + 1) z'' (ys ++ [y]) ∧ Like s s₄) E' s₃
          else ∃ z'' m'', Fz loC z' hcC z'' C m'' [] s₃.heap ∧ J (i + 1) z'' ys ∧ Like s s₃) E' s')
    (done : ∀ D z' ys k s', Fz lo z₀ hc z' L m ms s'.heap → z.StaysIn z' → z'.get? D = some (LO ys k) → J n z' ys → Like s s' → Q (.ref D) s')
    (hcell : ∀ y ∈ scope.names, y.2 ≠ .cell := by decide) (hkind : scope.kind = .function := by rfl) (hx : scope.names.lookup x = some .local := by rfl) :
    wpAny (model prog w) A (newList []) (fun acc s₃ => wpAny (model prog w) A (newFunctionEnv scope env.globals cl [] env.qual none .none (some env)) (fun cenv s₄ =>
      codeAny (model prog w) A (.compStart (.ListComp elt [⟨.Name x px, iter, ifs, 0⟩] scope pos) 0 (.ref I) acc { cenv with scope := relabel scope env }) (compPost (model prog w) A E none Q acc cenv.locals) s₄) E s₃) E s := by
  refine zCompCore (RR := fun acc C => compPost (model prog w) A E none Q acc C) W O F hst hsz hcell hkind hx J h0 turn ?_
  intro D C oC mc z' ys k s' F' hn hz hJ lk
  refine ⟨mc, hn, fun h' hs => ?_⟩
  have F₁ : Fz lo z₀ hc z' L m ((D, LO ys k) :: ms) h' := F'.lose hs.extBut (by rw [hs.1]; exact Nat.le_refl _)
  obtain ⟨z'', F₂, hz₂, hD⟩ := F₁.freeze
  exact done D z'' ys k { s' with heap := h' } F₂ (stays_trans hz hz₂) hD (hmono _ _ _ hz₂ hJ) lk

theorem zCompRunU {elt iter : Expr} {x y : Str} {px py : Pos} {ifs : List Expr} {scope : Scope} {cl : List (Str × Addr)} {pos : Pos} {Q : Value → Shared → Prop}
    {I : Addr} {o : Obj} {fp wr : List Addr} {n : Nat} {P : Nat → Value → Prop} {St : Nat → Heap → Prop}
    (W : Walks prog w A I fp wr n P St) (O : Own I fp wr St z) (F : Fz lo z₀ hc z L m ((I, o) :: ms) s.heap) (hst : St 0 s.heap) (hsz : n ≤ sizeLine)
    (J : Nat → Heap → List Value → Prop) (h0 : J 0 z []) (hmono : ∀ z z' ys, z.StaysIn z' → J n z ys → J n z' ys)
    (turn : ∀ i v z' ys C mc s' E' loC hcC, i < n → P i v → z.StaysIn z' → J i z' ys → Fz loC z' hcC z' C (upd mc x v) [] s'.heap → Like s s' →
      wpAny (model prog w) A (forIn ifs true fun c r => if r = true then do let ok ← isTrue c (compEnvC scope cl C env) (eval c (compEnvC scope cl C env)); pure (ForInStep.yield ok) else pure (ForInStep.yield r))
        (fun ok s₃ => if ok = true then wpAny (model prog w) A (eval elt (compEnvC scope cl C env)) (fun y s₄ => ∃ z'' m'', Fz loC z' hcC z'' C m'' [] s₄.heap ∧ J (i + 1) z'' (ys ++ [y]) ∧ Like s s₄) E' s₃
          else ∃ z'' m'', Fz loC z' hcC z'' C m'' [] s₃.heap ∧ J (i + 1) z'' ys ∧ Like s s₃) E' s')
    (done : ∀ D z' ys k s', Fz lo z₀ hc z' L (upd m y (.ref D)) ms s'.heap → z.StaysIn z' → z'.get? D = some (LO ys k) → J n z' ys → Like s s' → Q .none s')
    (hcell : ∀ y ∈ scope.names, y.2 ≠ .cell := by decide) (hkind : scope.kind = .function := by rfl) (hx : scope.names.lookup x = some .local := by rfl)
    (hL : env.locals = L := by rfl) (hy : env.kindOf y = some .local := by rfl) (hp : (env.scope.kind == .class || (env.scope.kind == .module && env.locals != env.globals)) = false := by rfl) :
    wpAny (model prog w) A (newList []) (fun acc s₃ => wpAny (model prog w) A (newFunctionEnv scope env.globals cl [] env.qual none .none (some env)) (fun cenv s₄ =>
      codeAny (model prog w) A (.compStart (.ListComp elt [⟨.Name x px, iter, ifs, 0⟩] scope pos) 0 (.ref I) acc { cenv with scope := relabel scope env }) (compPost (model prog w) A E (some (assign (.Name y py) env)) Q acc cenv.locals) s₄) E s₃) E s := by
  refine zCompCore (RR := fun acc C => compPost (model prog w) A E (some (assign (.Name y py) env)) Q acc C) W O F hst hsz hcell hkind hx J h0 turn ?_
  intro D C oC mc z' ys k s' F' hn hz hJ lk
  refine wpAny_assign_Name ?_
  subst hL
  refine wpAny_storeName_local hy F'.ns (fun h₁ hn₁ hs₁ => ?_) hp
  have hCL : C ≠ env.locals := (F'.mu (C, oC) (.head _)).2.1
  have F₀ : Fz lo z₀ hc z' env.locals (upd m y (.ref D)) ((C, oC) :: (D, LO ys k) :: ms) h₁ := F'.store hn₁ hs₁
  refine ⟨mc, hn.sameBut hs₁ hCL, fun h' hs => ?_⟩
  have F₁ : Fz lo z₀ hc z' env.locals (upd m y (.ref D)) ((D, LO ys k) :: ms) h' := F₀.lose hs.extBut (by rw [hs.1]; exact Nat.le_refl _)
  obtain ⟨z'', F₂, hz₂, hD⟩ := F₁.freeze
  exact done D z'' ys k { s' with heap := h', toks := s'.toks + 1 } F₂ (stays_trans hz hz₂) hD (hmono _ _ _ hz₂ hJ) (lk.trans ⟨rfl, rfl, rfl⟩)

theorem zAssignComp {M : Model} {elt iter : Expr} {x y : Str} {px py : Pos} {ifs : List Expr} {scope : Scope} {cl : List (Str × Addr)} {pos spos : Pos} {Q : Flow → Shared → Prop}
    (hclos : closureFor scope env = pure cl)
    (h : wpAny M A (eval iter env) (fun xv s₁ => wpAny M A (pyIter xv) (fun it s₂ => wpAny M A (newList []) (fun acc s₃ => wpAny M A (newFunctionEnv scope env.globals cl [] env.qual none .none (some env)) (fun cenv s₄ =>
      codeAny M A (.compStart (.ListComp elt [⟨.Name x px, iter, ifs, 0⟩] scope pos) 0 it acc { cenv with scope := relabel scope env }) (compPost M A E (some (assign (.Name y py) env)) (fun _ s' => Q .next s') acc cenv.locals) s₄) E s₃) E s₂) E s₁) E s)
    (hsw : swapsWith (.ListComp elt [⟨.Name x px, iter, ifs, 0⟩] scope pos) (some (.Name y py)) spos.line env = pure true := by rfl)
    (hkind : scope.kind = .function := by rfl) (hnames : ∀ y ∈ scope.names, y.2 = .local → scope.names.lookup y.1 = some .local := by decide)
    (hs : ∀ x, foldedSetIterable iter env x = pure x := by intro _; rfl) : wpAny M A (exec (.Assign [.Name y py] (.ListComp elt [⟨.Name x px, iter, ifs, 0⟩] scope pos) spos) env) Q E s := by
  rw [exec_Assign_Name_used _ _ _ _ hsw]
  refine wpAny_bind (wpAny_standAt (wpAny_bind ?_))
  show wpAny M A (comprehension _ scope env _ (newList []) false (eval iter env) (some (assign (.Name y py) env)) >>= fun _ => pure ()) _ E s
  exact wpAny_bind (wpAny_mono (wpAny_comprehension_free (use := some (assign (.Name y py) env)) (Q := fun _ s' => Q .next s') rfl hs hclos hkind hnames h) (fun _ _ q => wpAny_pure (wpAny_pure q)) fun _ _ e => e)

theorem zIterB {b : Array UInt8} {t : Tok} {Q : Value → Shared → Prop} (F : Fz lo z₀ hc z L m ms s.heap) (hh : A.handled = none)
    (h : ∀ I o s', Walks prog w A I [I] [I] b.size (fun i v => ∃ c u, b[i]? = some c ∧ v = .int (c.toNat : Int) u) (fun i h => KBw.IsBytesIter h I b t i) → Own I [I] [I] (fun i h => KBw.IsBytesIter h I b t i) z →
      Fz lo z₀ hc z L m ((I, o) :: ms) s'.heap → KBw.IsBytesIter s'.heap I b t 0 → Like s s' → Q (.ref I) s') : wpAny (model prog w) A (pyIter (.bytes b t)) Q E s := by
  refine KBw.pyIter_bytes ?_
  have F' := F.pushMut { cls := .type "bytes_iterator", data := .fields #[.bytes b t, .int 0 0] }
  refine h _ _ { s with heap := s.heap.push { cls := .type "bytes_iterator", data := .fields #[.bytes b t, .int 0 0] } } (KBw.walks hh _ b t) ⟨by simp, by simp, ?_⟩ F' ⟨_, Heap.get?_push_size _ rfl, rfl, rfl⟩ ⟨rfl, rfl, rfl⟩
  rintro i h ⟨o, ho, _⟩; exact ⟨o, ho⟩
end

def jn {α : Type} (sep : List α) : List (List α) → List α
  | [] => []
  | [x] => x
  | x :: y :: r => x ++ sep ++ jn sep (y :: r)
theorem jn_nil {α : Type} : ∀ ls : List (List α), jn [] ls = ls.flatten
  | [] => rfl
  | [x] => by simp [jn]
  | x :: y :: r => by rw [jn, jn_nil (y :: r)]; simp
theorem strJoin_tS (sp : List Nat) : ∀ ls : List (List Nat), Str.join (tS sp) (ls.map tS) = tS (jn sp ls)
  | [] => rfl
  | [x] => rfl
  | x :: y :: r => by
    show tS x ++ tS sp ++ Str.join (tS sp) ((y :: r).map tS) = _
    rw [strJoin_tS sp (y :: r), tS_append, tS_append]; rfl
theorem strsAre_of {z : Heap} : ∀ {vs : List Value} {ls : List (List Nat)}, Paired (RStr z) vs ls → StrsAre vs (ls.map tS)
  | _, _, .nil => .nil
  | _, _, .cons ⟨t, e⟩ r => by subst e; exact .cons _ _ (strsAre_of r)
theorem txtJoin_tS (sp : List Nat) (ls : List (List Nat)) : Txt.join (tS sp) (ls.map tS) = tS (jn sp ls) := by
  rw [← strJoin_tS]
  exact StrLaws.glued_eq_join _ _
section
variable {prog : Program} {w : World} {A : Around} {E : Value → Shared → Prop} {s : Shared} {z : Heap}
theorem zJoinS {D : Addr} {ys : List Value} {k : Nat} {x : Str} {t : Tok} {sp : List Nat} {ls : List (List Nat)} {Q : Value → Shared → Prop} (hz : z.StaysIn s.heap) (hD : z.get? D = some (LO ys k)) (hp : Paired (RStr z) ys ls) (hx : x = tS sp)
    (hsz : (ls.map (·.length)).sum + ls.length * sp.length ≤ 16777216) (h : ∀ t' k, Q (.str (tS (jn sp ls)) t') { s with toks := k }) : wpAny (model prog w) A (call (.builtin "str.join") [.str x t, .ref D]) Q E s := by
  subst hx
  refine join_list (ys := ls.map tS) ⟨_, hz _ _ hD, rfl, k, rfl⟩ (strsAre_of (by simpa using hp)) ?_ fun t' k => ?_
  · rw [List.map_map, List.length_map, tS_len]
    have : (ls.map (Str.length ∘ tS)) = ls.map (·.length) := by apply List.map_congr_left; intro a _; exact tS_len a
    rw [this]; exact hsz
  · rw [txtJoin_tS]; exact h t' k
end
theorem paired_map {α β γ : Type} {F : α → γ → Prop} {f : β → γ} : ∀ {l₁ : List α} {l₂ : List β}, Paired (fun a b => F a (f b)) l₁ l₂ → Paired F l₁ (l₂.map f)
  | _, _, .nil => .nil
  | _, _, .cons h t => .cons h (paired_map t)
theorem sum_pic : ∀ cs : List Nat, (((cs.map pic).map (·.length)).sum) = (drawn cs).length
  | [] => rfl
  | c :: cs => by simp only [List.map_cons, List.sum_cons, sum_pic cs, drawn, List.flatMap_cons, List.length_append]
section
variable {prog : Program} {w : World} {A : Around} {E : Value → Shared → Prop} {s : Shared} {z : Heap} {mg mb : Str → Option Value}
set_option maxHeartbeats 1000000
theorem shown_list {v : Value} {cs : List Nat} {Q : Value → Shared → Prop} (Am : Amb (KK w) mg mb z) (hz : z.StaysIn s.heap) (hA : Rm A 4) (hv : LstOf (fun _ => IsCode) z v cs) (hn : cs.length ≤ 3000) (hb : ∀ c ∈ cs, c < 256)
    (hQ : ∀ z' s' t, Step z s.heap z' s'.heap → Like s s' → Q (.str (tS (drawn cs)) t) s') : wpAny (model prog w) A (call (.ref 176) [v]) Q E s := by
  obtain ⟨a, its, k, rfl, ho, hp⟩ := hv
  have hlen : its.length = cs.length := hp.length
  refine zDef (binds := [(Str.ofString "signs", .ref a)]) Am hz hA rfl rfl rfl rfl ?_
  intro L s₁ E' A' F l R
  repeat' walk_at "z1"
  refine GM.join ?_
  refine callWith_method1 ?_
  repeat' walk_at "z1"
  refine zListComp rfl ?_
  repeat' walk_at "z1"
  refine zIterL (by assumption) ho R.handled ?_
  intro I o s' W O F' st lk
  refine zCompRun W O F' st (by rw [sizeLine_eq]; omega) (fun i z' ys => Paired (fun v c => RStr z' v (pic c)) ys (cs.take i)) (by simpa using Paired.nil) (fun z z' ys k h => h) ?_ ?_
  · intro i v z' ys C mc s' E' loC hcC hi hv hz' hJ G l'
    have Am := Am.mono hz'
    obtain ⟨c, hc, hcode⟩ := paired_get hp hv
    have hcs : cs.take (i + 1) = cs.take i ++ [c] := by rw [List.take_add_one, hc]; rfl
    refine wpAny_tests_nil ?_
    repeat' walk_at "z1"
    refine unctrl_code Am (Fz.keep (by assumption)) R (hb c (List.mem_of_getElem? hc)) hcode ?_
    intro z₂ s₂ t st l₂
    refine ⟨z₂, _, G.step st, ?_, by walk_at "like"⟩
    rw [hcs]; exact paired_append hJ (.cons ⟨t, rfl⟩ .nil)
  · intro D z' ys k s' F' hz' hD hJ l'
    rw [hlen, List.take_length] at hJ
    repeat' walk_at "z1"
    refine zJoinS (sp := []) (ls := cs.map pic) F'.keep hD (paired_map hJ) (by decide) ?_ ?_
    · have := drawn_len cs
      rw [sum_pic]; simp; omega
    · intro t' k
      rw [jn_nil, show (cs.map pic).flatten = drawn cs from by simp [drawn, List.flatMap]]
      exact hQ _ _ _ (Fz.done (by assumption)) (by walk_at "like")
theorem shown_bytes {b : List UInt8} {tb : Tok} {Q : Value → Shared → Prop} (Am : Amb (KK w) mg mb z) (hz : z.StaysIn s.heap) (hA : Rm A 4) (hn : b.length ≤ 3000)
    (hQ : ∀ z' s' t, Step z s.heap z' s'.heap → Like s s' → Q (.str (tS (drawn (b.map (·.toNat)))) t) s') : wpAny (model prog w) A (call (.ref 176) [.bytes b.toArray tb]) Q E s := by
  generalize hcs : b.map (·.toNat) = cs at hQ
  have hlen : b.toArray.size = cs.length := by rw [← hcs]; simp
  refine zDef (binds := [(Str.ofString "signs", .bytes b.toArray tb)]) Am hz hA rfl rfl rfl rfl ?_
  intro L s₁ E' A' F l R
  repeat' walk_at "z1"
  refine GM.join ?_
  refine callWith_method1 ?_
  repeat' walk_at "z1"
  refine zListComp rfl ?_
  repeat' walk_at "z1"
  refine zIterB (by assumption) R.handled ?_
  intro I o s' W O F' st lk
  refine zCompRun W O F' st (by rw [sizeLine_eq]; simp; omega) (fun i z' ys => Paired (fun v c => RStr z' v (pic c)) ys (cs.take i)) (by simpa using Paired.nil) (fun z z' ys k h => h) ?_ ?_
  · intro i v z' ys C mc s' E' loC hcC hi hv hz' hJ G l'
    have Am := Am.mono hz'
    obtain ⟨c8, u, hc8, rfl⟩ := hv
    have hc : cs[i]? = some c8.toNat := by rw [← hcs]; simp at hc8 ⊢; exact ⟨c8, hc8, rfl⟩
    have hcs' : cs.take (i + 1) = cs.take i ++ [c8.toNat] := by rw [List.take_add_one, hc]; rfl
    refine wpAny_tests_nil ?_
    repeat' walk_at "z1"
    refine unctrl_code Am (Fz.keep (by assumption)) R (UInt8.toNat_lt c8) (.inl ⟨u, rfl⟩) ?_
    intro z₂ s₂ t st l₂
    refine ⟨z₂, _, G.step st, ?_, by walk_at "like"⟩
    rw [hcs']; exact paired_append hJ (.cons ⟨t, rfl⟩ .nil)
  · intro D z' ys k s' F' hz' hD hJ l'
    rw [hlen, List.take_length] at hJ
    repeat' walk_at "z1"
    have hcl : cs.length ≤ 3000 := by rw [← hcs]; simpa using hn
    refine zJoinS (sp := []) (ls := cs.map pic) F'.keep hD (paired_map hJ) (by decide) ?_ ?_
    · have := drawn_len cs
      rw [sum_pic]; simp; omega
    · intro t' k
      rw [jn_nil, show (cs.map pic).flatten = drawn cs from by simp [drawn, List.flatMap]]
      exact hQ _ _ _ (Fz.done (by assumption)) (by walk_at "like")
end

section
variable {prog : Program} {w : World} {A : Around} {E : Value → Shared → Prop} {s : Shared} {env : Env} {lo : Nat} {z₀ hc z : Heap} {L : Addr} {m : Str → Option Value} {ms : List (Addr × Obj)}
theorem zLast {value slice : Expr} {D : Addr} {ys : List Value} {x : Value} {k : Nat} {u : Tok} {Q : Value → Shared → Prop} (hD : s.heap.get? D = some (LO (ys ++ [x]) k)) (hl : ys.length < 1000000) (h : Q x s)
    (hs : subscripted slice false (.ref D) (.int (-1) u) = operate [.ref D, .int (-1) u] (getItem (.ref D) (.int (-1) u)) := by with_unfolding_all rfl) :
    wpAny (model prog w) A (subscriptTail value slice (.ref D) (.int (-1) u)) Q E s := by
  have hL : s.heap.IsList D (ys ++ [x]).toArray := ⟨_, hD, rfl, k, rfl⟩
  refine tail_any hL.typeIs slot_list_getitem.lookup (wpAny_getItem_list_neg hL (by decide) (by simp; omega) (by decide) ?_ h) hs
  have e : ((-1 : Int) + ((ys ++ [x]).toArray.size : Int)).toNat = ys.length := by simp; omega
  rw [e]; simp
theorem zItem {value slice : Expr} {D : Addr} {ys : List Value} {x : Value} {k n : Nat} {u : Tok} {Q : Value → Shared → Prop} (hD : s.heap.get? D = some (LO ys k)) (hn : n < 1000000) (hx : ys[n]? = some x) (h : Q x s)
    (hs : subscripted slice false (.ref D) (.int (n : Int) u) = operate [.ref D, .int n u] (getItem (.ref D) (.int n u)) := by with_unfolding_all rfl) :
    wpAny (model prog w) A (subscriptTail value slice (.ref D) (.int n u)) Q E s := by
  have hL : s.heap.IsList D ys.toArray := ⟨_, hD, rfl, k, rfl⟩
  exact tail_any hL.typeIs slot_list_getitem.lookup (wpAny_getItem_list hL (by omega) (by omega) (by simpa using hx) h) hs
theorem setItem_last {l : Addr} {ys : List Value} {x v : Value} {k : Nat} {t : Tok} {Q : Unit → Shared → Prop} (ho : s.heap.get? l = some (LO (ys ++ [x]) k)) (hl' : ys.length < 1000000)
    (hQ : ∀ h', h'.get? l = some (LO (ys ++ [v]) k) → Heap.SameBut l s.heap h' → Q () { s with heap := h' }) :
    wpAny (model prog w) A (setItem (.ref l) (.int (-1) t) v) Q E s := by
  have hl : s.heap.IsList l (ys ++ [x]).toArray := ⟨_, ho, rfl, k, rfl⟩
  unfold setItem
  try with_reducible refine wpAny_holding ?_
  first | refine wpAny_bind (wpAny_pure ?_) | skip
  refine wpAny_bind (wpAny_sequenceKey hl.typeIs (by decide) ?_)
  refine wpAny_bind (wpAny_callSpecial?_slot (name := Str.ofString "__setitem__") hl.typeIs slot_list_setitem
    (wpAny_call_entry slot_list_setitem hl.typeIs entry_list_setitem ?_ (args_list_setitem _ _ _)))
  show wpAny _ _ (Builtin.List.listSubscript? (.int (-1) t) >>= _) _ _ s
  refine wpAny_bind (wpAny_listSubscript_int (fitsIndex_neg (by decide) (by decide)) ?_)
  have hidx : seqIndex? (Int.negSucc 0) (ys ++ [x]).toArray.size = some ys.length := by
    have := seqIndex_neg (k := Int.negSucc 0) (n := (ys ++ [x]).toArray.size) (by decide) (by simp; omega)
    rw [this]; simp; omega
  show wpAny _ _ ((Builtin.List.listItems (.ref l) >>= fun xs => pure ((seqIndex? (Int.negSucc 0) xs.size).bind fun i => xs[i]?.map (i, ·))) >>= _) _ _ s
  refine wpAny_bind (wpAny_bind ?_)
  show wpAny _ _ (seqItems? (.ref l) >>= _) _ _ s
  refine wpAny_bind (wpAny_seqItems ho rfl (wpAny_pure (wpAny_pure ?_)))
  rw [hidx]
  have hx : (ys ++ [x]).toArray[ys.length]? = some x := by simp
  simp only [Option.bind_some, hx, Option.map_some]
  show wpAny _ _ (setSeqItemAt l ys.length v >>= _) _ _ s
  have hfin : (s.heap.update l (Obj.mapSeq (·.setIfInBounds ys.length v))).get? l = some (LO (ys ++ [v]) k) := by
    rw [Heap.get?_update_self _ ho (by rfl)]
    simp [Obj.mapSeq, LO]
  refine wpAny_bind (wpAny_setSeqItemAt ho rfl ?_)
  first
    | exact wpAny_bind (wpAny_pure (wpAny_pure ⟨.none, rfl, wpAny_pure (hQ _ hfin (Heap.SameBut.update ..))⟩))
    | exact wpAny_pure ⟨.none, rfl, wpAny_pure (hQ _ hfin (Heap.SameBut.update ..))⟩
theorem zSetLast {pre post : List (Addr × Obj)} {D : Addr} {ys : List Value} {x v : Value} {k : Nat} {t : Tok} {Q : Unit → Shared → Prop} (F : Fz lo z₀ hc z L m (pre ++ (D, LO (ys ++ [x]) k) :: post) s.heap) (hl : ys.length < 1000000)
    (h : ∀ s', Fz lo z₀ hc z L m (pre ++ (D, LO (ys ++ [v]) k) :: post) s'.heap → Like s s' → Q () s') : wpAny (model prog w) A (setItem (.ref D) (.int (-1) t) v) Q E s := by
  refine setItem_last (F.mu (D, LO (ys ++ [x]) k) (by simp)).1 hl fun h' ho hs => ?_
  exact h { s with heap := h' } (F.mutate hs ho) ⟨rfl, rfl, rfl⟩
end

def cutStep (st : List (List Nat) × List Nat) (x : Nat) : List (List Nat) × List Nat := if x = 47 then (st.1 ++ [st.2], []) else (st.1, st.2 ++ [x])
def cutSt (cs : List Nat) : List (List Nat) × List Nat := cs.foldl cutStep ([], [])
def cut47 (cs : List Nat) : List (List Nat) := (cutSt cs).1 ++ [(cutSt cs).2]
theorem cutSt_snoc (cs : List Nat) (c : Nat) : cutSt (cs ++ [c]) = cutStep (cutSt cs) c := by simp [cutSt]
theorem cutSt_len : ∀ (cs : List Nat) (st : List (List Nat) × List Nat), (cs.foldl cutStep st).1.length ≤ st.1.length + cs.length ∧ (cs.foldl cutStep st).2.length ≤ st.2.length + cs.length
  | [], st => by simp
  | c :: cs, st => by
    have := cutSt_len cs (cutStep st c)
    have h1 : (cutStep st c).1.length ≤ st.1.length + 1 ∧ (cutStep st c).2.length ≤ st.2.length + 1 := by unfold cutStep; split <;> simp
    simp only [List.foldl_cons, List.length_cons]
    omega
section
variable {prog : Program} {w : World} {A : Around} {E : Value → Shared → Prop} {s : Shared} {z : Heap} {mg mb : Str → Option Value}
theorem zMethL {name : Str} {id : String} {pl : Sem Bool} {D : Addr} {ys : List Value} {k : Nat} {Q : Value × List Value → Shared → Prop} (slot : Slot "list" name id) (hty : typeOf (.builtin id) = pure (.type "method_descriptor"))
    (hD : s.heap.get? D = some (LO ys k)) (h : Q (.builtin id, [.ref D]) s) : wpAny (model prog w) A (getMethod (.ref D) name pl) Q E s :=
  getMethod_list_of slot hty ⟨_, hD, rfl, _, rfl⟩ ⟨_, hD, rfl⟩ h
set_option maxHeartbeats 1000000
theorem cut_spec {v : Value} {cs : List Nat} {Q : Value → Shared → Prop} (Am : Amb (KK w) mg mb z) (hz : z.StaysIn s.heap) (hA : Rm A 1) (hv : LstOf RNat z v cs) (hn : cs.length ≤ 3000)
    (hQ : ∀ z' s' r, Step z s.heap z' s'.heap → Like s s' → LstOf (LstOf RNat) z' r (cut47 cs) → Q r s') : wpAny (model prog w) A (call (.ref 190) [v]) Q E s := by
  obtain ⟨a, its, k, rfl, ho, hp⟩ := hv
  have hlen : its.length = cs.length := hp.length
  refine zDef (binds := [(Str.ofString "codes", .ref a)]) Am hz hA rfl rfl rfl rfl ?_
  intro L s₁ E' A' F l R
  repeat' walk_at "z1"
  refine zNewF (by assumption) (by walk_at "zsz") ?_
  intro b z₁ s₂ F₁ hz₁ hb l₂
  repeat' walk_at "z1"
  refine zNewM (by assumption) (by walk_at "zsz") ?_
  intro D s₃ F₂ l₃
  repeat' walk_at "z1"
  refine zForL R.handled (by assumption) (hz₁ _ _ ho)
    (fun i z' m' ms' => ∃ vs x k, ms' = [(D, LO (vs ++ [x]) k)] ∧ m' (Str.ofString "pieces") = some (.ref D) ∧ Paired (LstOf RNat z') vs (cutSt (cs.take i)).1 ∧ LstOf RNat z' x (cutSt (cs.take i)).2)
    ⟨[], .ref b, 0, rfl, upd_same, .nil, ⟨b, [], 0, rfl, hb, .nil⟩⟩ ?_ ?_
  · intro I i v z' m' ms' o' s' E' hi hv hz' hJ F' l'
    obtain ⟨vs, x, k, rfl, hm, hvs, hx⟩ := hJ
    have Am := Am.mono (stays_trans hz₁ hz')
    obtain ⟨c, hc, ⟨t, rfl⟩⟩ := paired_get hp hv
    have hcs : cs.take (i + 1) = cs.take i ++ [c] := by rw [List.take_add_one, hc]; rfl
    have hcl := cutSt_len (cs.take i) ([], [])
    have hti : (cs.take i).length ≤ 3000 := by simp; omega
    have hvl : vs.length ≤ 3000 := by rw [hvs.length]; simp [cutSt] at hcl ⊢; omega
    repeat' walk_at "z1"
    refine iteB (fun h1 => ?_) (fun h1 => ?_)
    · have h1 : c = 47 := by have := eq_of_beq h1; omega
      repeat' walk_at "z1"
      refine zMethL PySem.F.slot_list_append PySem.F.type_list_append (F'.mu (D, LO (vs ++ [x]) k) (by simp)).1 ?_
      refine callWith_method1 ?_
      repeat' walk_at "z1"
      refine zNewF (by assumption) (by walk_at "zsz") ?_
      intro b' z₂ s₄ F₄ hz₂ hb' l₄
      repeat' walk_at "z1"
      refine zAppend (pre := [(I, o')]) (by assumption) (by simp [sizeLine_eq]; omega) ?_
      intro k' s₅ F₅ _ l₅
      repeat' walk_at "z1"
      refine ⟨.inl rfl, _, _, _, F₅, hz₂, ⟨vs ++ [x], .ref b', k', rfl, by walk_at "mlook", ?_, ?_⟩, by walk_at "like"⟩
      · rw [hcs, cutSt_snoc, cutStep, if_pos h1]
        exact paired_append (paired_mono (fun v x => mono_Lst mono_RNat _ _ v x hz₂) hvs) (.cons (mono_Lst mono_RNat _ _ _ _ hz₂ hx) .nil)
      · rw [hcs, cutSt_snoc, cutStep, if_pos h1]
        exact ⟨b', [], 0, rfl, hb', .nil⟩
    · have h1 : ¬ c = 47 := by have := beq_eq_false_iff_ne.mp h1; omega
      repeat' walk_at "z1"
      refine zLast (F'.mu (D, LO (vs ++ [x]) k) (by simp)).1 (by omega) ?_
      obtain ⟨ax, xs, kx, rfl, hox, hpx⟩ := hx
      have hxl : xs.length ≤ 3000 := by rw [hpx.length]; simp [cutSt] at hcl ⊢; omega
      repeat' walk_at "z1"
      refine zNewF (by assumption) (by walk_at "zsz") ?_
      intro b' z₂ s₄ F₄ hz₂ hb' l₄
      refine zAddL (by assumption) (F₄.keep _ _ (hz₂ _ _ hox)) (F₄.keep _ _ hb') (by walk_at "zsz") ?_
      intro e z₃ s₅ F₅ hz₃ he l₅
      repeat' walk_at "z1"
      refine zSetLast (pre := [(I, o')]) (by assumption) (by omega) ?_
      intro s₆ F₆ l₆
      repeat' walk_at "z1"
      refine ⟨.inl rfl, _, _, _, F₆, stays_trans hz₂ hz₃, ⟨vs, .ref e, k, rfl, by walk_at "mlook", ?_, ?_⟩, by walk_at "like"⟩
      · rw [hcs, cutSt_snoc, cutStep, if_neg h1]
        exact paired_mono (fun v x => mono_Lst mono_RNat _ _ v x (stays_trans hz₂ hz₃)) hvs
      · rw [hcs, cutSt_snoc, cutStep, if_neg h1]
        exact ⟨e, _, 0, rfl, he, paired_append hpx (.cons ⟨_, rfl⟩ .nil)⟩
  · intro z' m' ms' s' hz' hJ F' l'
    obtain ⟨vs, x, k, rfl, hm, hvs, hx⟩ := hJ
    rw [hlen, List.take_length] at hvs hx
    repeat' walk_at "z1"
    obtain ⟨z'', F'', hz'', hD⟩ := F'.freeze
    refine hQ z'' _ _ F''.done (by walk_at "like") ⟨D, _, k, rfl, hD, ?_⟩
    exact paired_append (paired_mono (fun v x => mono_Lst mono_RNat _ _ v x hz'') hvs) (.cons (mono_Lst mono_RNat _ _ _ _ hz'' hx) .nil)
end

def tabL (d : Nat) : List (List Nat) := [[], [47], [46], [97], [47, 46, 46], [d / 8 % 256], [175], [174]]
def tab (d : Nat) : List Nat := (tabL d).getD (d % 8) []
def partStep (st : List (List Nat) × List Nat) (d : Nat) : List (List Nat) × List Nat :=
  if 0 < d % 8 then (st.1, st.2 ++ tab d) else if st.1.length + 1 < 4 then (st.1 ++ [st.2], []) else st
def partSt (ds : List Nat) : List (List Nat) × List Nat := ds.foldl partStep ([], [])
def partsOf (ds : List Nat) : List (List Nat) := (partSt ds).1 ++ [(partSt ds).2]
theorem partSt_snoc (cs : List Nat) (c : Nat) : partSt (cs ++ [c]) = partStep (partSt cs) c := by simp [partSt]
theorem tab_get (d : Nat) : (tabL d)[d % 8]? = some (tab d) := by
  have h : d % 8 < (tabL d).length := by simp [tabL]; omega
  unfold tab; rw [List.getD_eq_getElem?_getD, List.getElem?_eq_getElem h]; rfl
theorem tabL_len (d : Nat) : ∀ x ∈ tabL d, x.length ≤ 3 := by simp [tabL]
theorem tab_len (d : Nat) : (tab d).length ≤ 3 := tabL_len d _ (List.mem_of_getElem? (tab_get d))
theorem partSt_len : ∀ (cs : List Nat) (st : List (List Nat) × List Nat), st.1.length ≤ 3 → (cs.foldl partStep st).1.length ≤ 3 ∧ (cs.foldl partStep st).2.length ≤ st.2.length + 3 * cs.length
  | [], st, h => by simp [h]
  | c :: cs, st, h => by
    have h1 : (partStep st c).1.length ≤ 3 ∧ (partStep st c).2.length ≤ st.2.length + 3 := by
      have := tab_len c
      unfold partStep; split
      · simp; omega
      · split
        · simp; omega
        · simp; omega
    have := partSt_len cs (partStep st c) h1.1
    simp only [List.foldl_cons, List.length_cons]
    omega
section
variable {prog : Program} {w : World} {A : Around} {E : Value → Shared → Prop} {s : Shared} {z : Heap} {mg mb : Str → Option Value}
theorem zDivN {a : Nat} {b : Int} {t u : Tok} {k : Nat} {Q : Value → Shared → Prop} (hb : b = (k : Int)) (hk : k ≠ 0) (hk2 : k < 1073741824) (h : Q (.int ((a / k : Nat) : Int) s.toks) { s with toks := s.toks + 1 }) :
    wpAny (model prog w) A (binaryOp .FloorDiv (.int (a : Int) t) (.int b u)) Q E s := by
  subst hb
  refine floordiv_int (by omega) ?_ (.inl (PyProof.noPylong_small (by omega)))
  rw [fdivN]; exact h
theorem zLenL {D : Addr} {ys : List Value} {k : Nat} {Q : Value → Shared → Prop} (hD : s.heap.get? D = some (LO ys k)) (hn : ys.length < 1000000) (h : ∀ t s', s'.heap = s.heap → Like s s' → Q (.int ys.length t) s') :
    wpAny (model prog w) A (call (.builtin "len") [.ref D]) Q E s := by
  refine Rows.len_list (items := ys.toArray) ⟨_, hD, rfl, k, rfl⟩ (by simp; omega) ?_
  simpa using h (s.toks + 1) { s with toks := s.toks + 1 + 1 } rfl ⟨rfl, rfl, rfl⟩
theorem zTupAt {value slice : Expr} {D : Addr} {ys : List Value} {x : Value} {k n : Nat} {u : Tok} {Q : Value → Shared → Prop} (hD : s.heap.get? D = some (TO ys k)) (hn : n < 1000000) (hx : ys[n]? = some x) (h : Q x s)
    (hs : subscripted slice false (.ref D) (.int (n : Int) u) = operate [.ref D, .int n u] (getItem (.ref D) (.int n u)) := by with_unfolding_all rfl) :
    wpAny (model prog w) A (subscriptTail value slice (.ref D) (.int n u)) Q E s := by
  have hlt : n < ys.length := (List.getElem?_eq_some_iff.mp hx).1
  refine item_tupleT (l := ys) (j := n) ⟨_, hD, rfl, k, rfl⟩ (by omega) (by omega) ?_ hx h hs
  have hn' : ¬ ((n : Int) < 0) := by omega
  simp [seqIndex?, hn', hlt]
set_option maxHeartbeats 4000000
theorem parts_spec {v : Value} {cs : List Nat} {Q : Value → Shared → Prop} (Am : Amb (KK w) mg mb z) (hz : z.StaysIn s.heap) (hA : Rm A 1) (hv : LstOf RNat z v cs) (hn : cs.length ≤ 100)
    (hQ : ∀ z' s' r, Step z s.heap z' s'.heap → Like s s' → LstOf (LstOf RNat) z' r (partsOf cs) → Q r s') : wpAny (model prog w) A (call (.ref 164) [v]) Q E s := by
  obtain ⟨a, its, k, rfl, ho, hp⟩ := hv
  have hlen : its.length = cs.length := hp.length
  refine zDef (binds := [(Str.ofString "draws", .ref a)]) Am hz hA rfl rfl rfl rfl ?_
  intro L s₁ E' A' F l R
  repeat' walk_at "z1"
  refine zNewF (by assumption) (by walk_at "zsz") ?_
  intro b z₁ s₂ F₁ hz₁ hb l₂
  repeat' walk_at "z1"
  refine zNewM (by assumption) (by walk_at "zsz") ?_
  intro D s₃ F₂ l₃
  repeat' walk_at "z1"
  refine zForL R.handled (by assumption) (hz₁ _ _ ho)
    (fun i z' m' ms' => ∃ vs x k, ms' = [(D, LO (vs ++ [x]) k)] ∧ m' (Str.ofString "parts") = some (.ref D) ∧ Paired (LstOf RNat z') vs (partSt (cs.take i)).1 ∧ LstOf RNat z' x (partSt (cs.take i)).2)
    ⟨[], .ref b, 0, rfl, upd_same, .nil, ⟨b, [], 0, rfl, hb, .nil⟩⟩ ?_ ?_
  · intro I i v z' m' ms' o' s' E' hi hv hz' hJ F' l'
    obtain ⟨vs, x, k, rfl, hm, hvs, hx⟩ := hJ
    have Am := Am.mono (stays_trans hz₁ hz')
    obtain ⟨d, hc, ⟨t, rfl⟩⟩ := paired_get hp hv
    have hcs : cs.take (i + 1) = cs.take i ++ [d] := by rw [List.take_add_one, hc]; rfl
    have hcl := partSt_len (cs.take i) ([], []) (by simp)
    have hti : (cs.take i).length ≤ 100 := by simp; omega
    have hvl : vs.length ≤ 3 := by rw [hvs.length]; exact hcl.1
    repeat' walk_at "z1"
    refine zModN (k := 8) rfl (by decide) ?_
    repeat' walk_at "z1"
    refine iteB (fun h1 => ?_) (fun h1 => ?_)
    · have h1 : 0 < d % 8 := by have := of_decide_eq_true h1; omega
      obtain ⟨ax, xs, kx, rfl, hox, hpx⟩ := hx
      have hxl : xs.length ≤ 300 := by rw [hpx.length]; have := hcl.2; simp [partSt] at this ⊢; omega
      repeat' walk_at "z1"
      refine zLast (F'.mu (D, LO (vs ++ [.ref ax]) k) (by simp)).1 (by omega) ?_
      repeat' walk_at "z1"
      refine zNewF (by assumption) (by walk_at "zsz") ?_
      intro b0 y0 r0 G0 hy0 hb0 k0
      repeat' walk_at "z1"
      refine zNewF (by assumption) (by walk_at "zsz") ?_
      intro b1 y1 r1 G1 hy1 hb1 k1
      repeat' walk_at "z1"
      refine zNewF (by assumption) (by walk_at "zsz") ?_
      intro b2 y2 r2 G2 hy2 hb2 k2
      repeat' walk_at "z1"
      refine zNewF (by assumption) (by walk_at "zsz") ?_
      intro b3 y3 r3 G3 hy3 hb3 k3
      repeat' walk_at "z1"
      refine zNewF (by assumption) (by walk_at "zsz") ?_
      intro b4 y4 r4 G4 hy4 hb4 k4
      repeat' walk_at "z1"
      refine zDivN (k := 8) rfl (by decide) (by decide) ?_
      repeat' walk_at "z1"
      refine zModN (k := 256) rfl (by decide) ?_
      repeat' walk_at "z1"
      refine zNewF (by assumption) (by walk_at "zsz") ?_
      intro b5 y5 r5 G5 hy5 hb5 k5
      repeat' walk_at "z1"
      refine zNewF (by assumption) (by walk_at "zsz") ?_
      intro b6 y6 r6 G6 hy6 hb6 k6
      repeat' walk_at "z1"
      refine zNewF (by assumption) (by walk_at "zsz") ?_
      intro b7 y7 r7 G7 hy7 hb7 k7
      repeat' walk_at "z1"
      refine zTup (by assumption) (by walk_at "zsz") ?_
      intro T zT sT FT hyT hT lT
      repeat' walk_at "z1"
      refine zModN (k := 8) rfl (by decide) ?_
      have hpt : Paired (LstOf RNat zT) [.ref b0, .ref b1, .ref b2, .ref b3, .ref b4, .ref b5, .ref b6, .ref b7] (tabL d) := (.cons ⟨b0, _, 0, rfl, hyT _ _ ((stays_trans hy1 (stays_trans hy2 (stays_trans hy3 (stays_trans hy4 (stays_trans hy5 (stays_trans hy6 hy7)))))) _ _ hb0), .nil⟩ (.cons ⟨b1, _, 0, rfl, hyT _ _ ((stays_trans hy2 (stays_trans hy3 (stays_trans hy4 (stays_trans hy5 (stays_trans hy6 hy7))))) _ _ hb1), (.cons ⟨_, rfl⟩ .nil)⟩ (.cons ⟨b2, _, 0, rfl, hyT _ _ ((stays_trans hy3 (stays_trans hy4 (stays_trans hy5 (stays_trans hy6 hy7)))) _ _ hb2), (.cons ⟨_, rfl⟩ .nil)⟩ (.cons ⟨b3, _, 0, rfl, hyT _ _ ((stays_trans hy4 (stays_trans hy5 (stays_trans hy6 hy7))) _ _ hb3), (.cons ⟨_, rfl⟩ .nil)⟩ (.cons ⟨b4, _, 0, rfl, hyT _ _ ((stays_trans hy5 (stays_trans hy6 hy7)) _ _ hb4), (.cons ⟨_, rfl⟩ (.cons ⟨_, rfl⟩ (.cons ⟨_, rfl⟩ .nil)))⟩ (.cons ⟨b5, _, 0, rfl, hyT _ _ ((stays_trans hy6 hy7) _ _ hb5), (.cons ⟨_, rfl⟩ .nil)⟩ (.cons ⟨b6, _, 0, rfl, hyT _ _ (hy7 _ _ hb6), (.cons ⟨_, rfl⟩ .nil)⟩ (.cons ⟨b7, _, 0, rfl, hyT _ _ (stays_refl _ _ _ hb7), (.cons ⟨_, rfl⟩ .nil)⟩ .nil))))))))
      obtain ⟨xv, hxv, hxt⟩ := paired_get' hpt (tab_get d)
      refine zTupAt (FT.keep _ _ hT) (by omega) hxv ?_
      obtain ⟨at', ts, kt, rfl, hot, hpt'⟩ := hxt
      have hzT : z'.StaysIn zT := stays_trans (stays_trans (stays_trans (stays_trans (stays_trans (stays_trans (stays_trans (stays_trans hy0 hy1) hy2) hy3) hy4) hy5) hy6) hy7) hyT
      have htl : ts.length ≤ 3 := by rw [hpt'.length]; exact tab_len d
      refine zAddL (by assumption) (FT.keep _ _ (hzT _ _ hox)) (FT.keep _ _ hot) (by walk_at "zsz") ?_
      intro e z₃ s₅ F₅ hz₃ he l₅
      repeat' walk_at "z1"
      refine zSetLast (pre := [(I, o')]) (by assumption) (by omega) ?_
      intro s₆ F₆ l₆
      repeat' walk_at "z1"
      refine ⟨.inl rfl, _, _, _, F₆, stays_trans hzT hz₃, ⟨vs, .ref e, k, rfl, by walk_at "mlook", ?_, ?_⟩, by walk_at "like"⟩
      · rw [hcs, partSt_snoc, partStep, if_pos h1]
        exact paired_mono (fun v x => mono_Lst mono_RNat _ _ v x (stays_trans hzT hz₃)) hvs
      · rw [hcs, partSt_snoc, partStep, if_pos h1]
        exact ⟨e, _, 0, rfl, he, paired_append hpx hpt'⟩
    · have h1 : ¬ 0 < d % 8 := by have := of_decide_eq_false h1; omega
      repeat' walk_at "z1"
      refine zLenL (F'.mu (D, LO (vs ++ [x]) k) (by simp)).1 (by simp; omega) ?_
      intro tl sl hsl ll
      have F' := hsl ▸ F'
      repeat' walk_at "z1"
      refine iteB (fun h2 => ?_) (fun h2 => ?_)
      · have h2 : vs.length + 1 < 4 := by have := of_decide_eq_true h2; simp at this; omega
        repeat' walk_at "z1"
        refine zMethL PySem.F.slot_list_append PySem.F.type_list_append (F'.mu (D, LO (vs ++ [x]) k) (by simp)).1 ?_
        refine callWith_method1 ?_
        repeat' walk_at "z1"
        refine zNewF (by assumption) (by walk_at "zsz") ?_
        intro b' z₂ s₄ F₄ hz₂ hb' l₄
        repeat' walk_at "z1"
        refine zAppend (pre := [(I, o')]) (by assumption) (by simp [sizeLine_eq]; omega) ?_
        intro k' s₅ F₅ _ l₅
        repeat' walk_at "z1"
        refine ⟨.inl rfl, _, _, _, F₅, hz₂, ⟨vs ++ [x], .ref b', k', rfl, by walk_at "mlook", ?_, ?_⟩, by walk_at "like"⟩
        · rw [hcs, partSt_snoc, partStep, if_neg h1, if_pos (by rw [← hvs.length]; exact h2)]
          exact paired_append (paired_mono (fun v x => mono_Lst mono_RNat _ _ v x hz₂) hvs) (.cons (mono_Lst mono_RNat _ _ _ _ hz₂ hx) .nil)
        · rw [hcs, partSt_snoc, partStep, if_neg h1, if_pos (by rw [← hvs.length]; exact h2)]
          exact ⟨b', [], 0, rfl, hb', .nil⟩
      · have h2 : ¬ vs.length + 1 < 4 := by have := of_decide_eq_false h2; simp at this; omega
        repeat' walk_at "z1"
        refine ⟨.inl rfl, _, _, _, by assumption, stays_refl _, ⟨vs, x, k, rfl, by walk_at "mlook", ?_, ?_⟩, by walk_at "like"⟩
        · rw [hcs, partSt_snoc, partStep, if_neg h1, if_neg (by rw [← hvs.length]; exact h2)]; exact hvs
        · rw [hcs, partSt_snoc, partStep, if_neg h1, if_neg (by rw [← hvs.length]; exact h2)]; exact hx
  · intro z' m' ms' s' hz' hJ F' l'
    obtain ⟨vs, x, k, rfl, hm, hvs, hx⟩ := hJ
    rw [hlen, List.take_length] at hvs hx
    repeat' walk_at "z1"
    obtain ⟨z'', F'', hz'', hD⟩ := F'.freeze
    refine hQ z'' _ _ F''.done (by walk_at "like") ⟨D, _, k, rfl, hD, ?_⟩
    exact paired_append (paired_mono (fun v x => mono_Lst mono_RNat _ _ v x hz'') hvs) (.cons (mono_Lst mono_RNat _ _ _ _ hz'' hx) .nil)
end

section
variable {prog : Program} {w : World} {A : Around} {E : Value → Shared → Prop} {s : Shared}
theorem zType {v : Value} {T : String} {Q : Value → Shared → Prop} (hv : (∃ x t, v = .str x t ∧ T = "str") ∨ (∃ x t, v = .bytes x t ∧ T = "bytes")) (hq : Q (.type T) s) : wpAny (model prog w) A (call (.type "type") [v]) Q E s := by
  obtain ⟨h, g, d, t, os⟩ := s
  rcases hv with ⟨x, tx, rfl, rfl⟩ | ⟨x, tx, rfl, rfl⟩
  · refine wpAny_call (codeAny_of_tree ?_)
    show wpAny _ _ (callAny (.type "type") ⟨[.str x tx], []⟩) _ _ _
    simp only [callAny]
    refine wpAny_pure ⟨Code.quiet_builtin _ (by decide +kernel), codeAny_builtin entry_type_call ?_⟩
    unfold Builtin.«type.__call__»
    dsimp only
    unfold shownTypeOf
    repeat (first | wp_step)
    exact hq
  · refine wpAny_call (codeAny_of_tree ?_)
    show wpAny _ _ (callAny (.type "type") ⟨[.bytes x tx], []⟩) _ _ _
    simp only [callAny]
    refine wpAny_pure ⟨Code.quiet_builtin _ (by decide +kernel), codeAny_builtin entry_type_call ?_⟩
    unfold Builtin.«type.__call__»
    dsimp only
    unfold shownTypeOf
    repeat (first | wp_step)
    exact hq
theorem sub_str_str' : isSubtype (.type "str") (.type "str") = pure true := by rw [isSubtype_type]; kernel_rfl
theorem sub_bytes_str' : isSubtype (.type "bytes") (.type "str") = pure false := by rw [isSubtype_type]; kernel_rfl
theorem sub_bytes_bytes' : isSubtype (.type "bytes") (.type "bytes") = pure true := by rw [isSubtype_type]; kernel_rfl
theorem meta_bytes' : typeOf (.type "bytes") = pure (.type "type") := by kernel_rfl
theorem meta_str' : typeOf (.type "str") = pure (.type "type") := by kernel_rfl
theorem nested_one {T U : String} {b : Bool} {dep : Int} {tk : Tok} {Q : Fin → Shared → Prop} (hm : typeOf (.type U) = pure (.type "type")) (hsub : isSubtype (.type T) (.type U) = pure b) (hq : Q (.done (.ret (.bool b))) s) :
    wpAny (model prog w) A (Builtin.«issubclass.nested» ⟨[.type T, .type U, .int dep tk], []⟩) Q E s := by
  unfold Builtin.«issubclass.nested»
  dsimp only
  rw [hm]
  repeat (any_goals (first | assumption | (rw [hsub]) | wp_step))
theorem kind_nested : builtinKind "issubclass.nested" = none := by decide +kernel
theorem plain_nested : plainId "issubclass.nested" = true := by decide +kernel
theorem args_nested (a b c : Value) : argsOk "issubclass.nested" ⟨[a, b, c], []⟩ := by unfold argsOk; kernel_rfl
theorem call_nested {T U : String} {b : Bool} {dep : Int} {tk : Tok} {Q : Value → Shared → Prop} (hm : typeOf (.type U) = pure (.type "type")) (hsub : isSubtype (.type T) (.type U) = pure b) (hq : Q (.bool b) s) :
    wpAny (model prog w) A (call (.builtin "issubclass.nested") [.type T, .type U, .int dep tk]) Q E s :=
  call_function_entry kind_nested plain_nested F.entry_issubclass_nested (args_nested _ _ _) (nested_one hm hsub ⟨_, rfl, hq⟩)
theorem chk_nested (a b c : Value) : checkBuiltinCall "issubclass.nested" ⟨[a, b, c], []⟩ = pure () := by kernel_rfl
theorem code_nested {T U : String} {b : Bool} {dep : Int} {tk : Tok} {R : Result → Shared → Prop} (hm : typeOf (.type U) = pure (.type "type")) (hsub : isSubtype (.type T) (.type U) = pure b) (hq : R (.ok (.ret (.bool b))) s) :
    codeAny (model prog w) A (.call (.builtin "issubclass.nested") ⟨[.type T, .type U, .int dep tk], []⟩) R s := by
  refine codeAny_call_builtin plain_nested F.entry_issubclass_nested ?_
  have hfin := nested_one (prog := prog) (w := w) (A := A.in1) (E := fun e s' => R (.error e) s') (s := s) (dep := dep) (tk := tk) hm hsub (Q := fun fin s' => match fin with
      | .done f => R (.ok f) s'
      | .again c' => c'.quiet = true ∧ codeAny (model prog w) A c' R s') hq
  rw [chk_nested]; exact wpAny_pure hfin
theorem nested_pair {T : String} {tp : Addr} {k : Nat} {b : Bool} {tk : Tok} {Q : Fin → Shared → Prop} (htp : s.heap.get? tp = some (TO [.type "str", .type "bytes"] k))
    (h1 : isSubtype (.type T) (.type "str") = pure b) (h2 : b = false → isSubtype (.type T) (.type "bytes") = pure true) (hq : Q (.done (.ret (.bool true))) s) :
    wpAny (model prog w) A (Builtin.«issubclass.nested» ⟨[.type T, .ref tp, .int 0 tk], []⟩) Q E s := by
  obtain ⟨h, g, d, t, os⟩ := s
  have hT2 : (⟨h, g, d, t, os⟩ : Shared).TypeIs (.ref tp) "tuple" := ⟨_, htp, rfl⟩
  have f1 := F.isi_sub_tuple
  repeat (any_goals (first | assumption | wp_step))
  refine code_nested (U := "str") meta_str' h1 ?_
  dsimp only
  cases b with
  | true =>
    repeat (any_goals (first | assumption | wp_step))
  | false =>
    repeat (any_goals (first | assumption | wp_step))
    refine code_nested (U := "bytes") meta_bytes' (h2 rfl) ?_
    dsimp only
    repeat (any_goals (first | assumption | wp_step))
theorem zIssub {T : String} {tp : Addr} {k : Nat} {b : Bool} {Q : Value → Shared → Prop} (htp : s.heap.get? tp = some (TO [.type "str", .type "bytes"] k))
    (h1 : isSubtype (.type T) (.type "str") = pure b) (h2 : b = false → isSubtype (.type T) (.type "bytes") = pure true) (hq : Q (.bool true) s) :
    wpAny (model prog w) A (call (.builtin "issubclass") [.type T, .ref tp]) Q E s := by
  refine call_issubclass (S := fun _ R s' => s'.heap.get? tp = some (TO [.type "str", .type "bytes"] k) ∧ R (.ok (.ret (.bool true))) s') (fun _ _ _ _ _ hs => issubclass_outer (nested_pair hs.1 h1 h2 hs.2)) ⟨htp, ?_⟩
  exact hq
end

/-! texts and octets by their codes -/
def bA (l : List Nat) : Array UInt8 := (l.map fun n => UInt8.ofNat n).toArray
def B256 (l : List Nat) : Prop := ∀ c ∈ l, c < 256
def PV (k : Bool) (l : List Nat) (v : Value) : Prop := B256 l ∧ (if k = true then ∃ t, v = .str (tS l) t else ∃ t, v = .bytes (bA l) t)
theorem PV.str {l : List Nat} {v : Value} (h : PV true l v) : ∃ t, v = .str (tS l) t := by simpa using h.2
theorem PV.byt {l : List Nat} {v : Value} (h : PV false l v) : ∃ t, v = .bytes (bA l) t := by simpa using h.2
theorem pv_str {l : List Nat} {t : Tok} (h : B256 l) : PV true l (.str (tS l) t) := ⟨h, by simp⟩
theorem pv_byt {l : List Nat} {t : Tok} (h : B256 l) : PV false l (.bytes (bA l) t) := ⟨h, by simp⟩
theorem bA_size (l : List Nat) : (bA l).size = l.length := by simp [bA]
theorem bA_append (a b : List Nat) : bA a ++ bA b = bA (a ++ b) := by simp [bA]
theorem bA_toList (l : List Nat) : (bA l).toList = l.map fun n => UInt8.ofNat n := by simp [bA]
theorem u8_inj {a b : Nat} (ha : a < 256) (hb : b < 256) (h : UInt8.ofNat a = UInt8.ofNat b) : a = b := by
  have := congrArg UInt8.toNat h
  simp only [UInt8.toNat_ofNat'] at this
  omega
theorem mapU8_inj : ∀ {a b : List Nat}, B256 a → B256 b → (a.map fun n => UInt8.ofNat n) = b.map (fun n => UInt8.ofNat n) → a = b
  | [], [], _, _, _ => rfl
  | [], _ :: _, _, _, h => by simp at h
  | _ :: _, [], _, _, h => by simp at h
  | x :: a, y :: b, ha, hb, h => by
    simp only [List.map_cons, List.cons.injEq] at h
    rw [u8_inj (ha x (by simp)) (hb y (by simp)) h.1, mapU8_inj (fun c hc => ha c (by simp [hc])) (fun c hc => hb c (by simp [hc])) h.2]
theorem b256_append {a b : List Nat} (ha : B256 a) (hb : B256 b) : B256 (a ++ b) := fun c hc => (List.mem_append.mp hc).elim (ha c) (hb c)
theorem b256_sub {a b : List Nat} (hb : B256 b) (h : ∀ c ∈ a, c ∈ b) : B256 a := fun c hc => hb c (h c hc)
def kid (k : Bool) (a b : String) : String := if k = true then a else b
section
variable {prog : Program} {w : World} {A : Around} {E : Value → Shared → Prop} {s : Shared} {k : Bool} {l l' : List Nat} {v v' : Value}
theorem pTruth {Q : Bool → Shared → Prop} (hv : PV k l v) (hn : l.length ≤ 1000000) (h : ∀ s', s'.heap = s.heap → Like s s' → Q (decide (l ≠ [])) s') : wpAny (model prog w) A (truthy v) Q E s := by
  have e : ((l.length : Int) != 0) = decide (l ≠ []) := by cases l <;> simp; omega
  cases k with
  | true =>
    obtain ⟨t, rfl⟩ := hv.str
    refine P.truthy_str (by rw [tS_len]; omega) ?_
    rw [tS_len, e]; exact h { s with toks := s.toks + 1 + 1 } rfl ⟨rfl, rfl, rfl⟩
  | false =>
    obtain ⟨t, rfl⟩ := hv.byt
    refine truthy_bytes (by rw [bA_size]; omega) ?_
    rw [bA_size, e]; exact h { s with toks := s.toks + 1 + 1 } rfl ⟨rfl, rfl, rfl⟩
theorem pLen {Q : Value → Shared → Prop} (hv : PV k l v) (hn : l.length ≤ 1000000) (h : ∀ t s', s'.heap = s.heap → Like s s' → Q (.int l.length t) s') : wpAny (model prog w) A (call (.builtin "len") [v]) Q E s := by
  cases k with
  | true =>
    obtain ⟨t, rfl⟩ := hv.str
    refine Rows.len_str (by rw [tS_len]; omega) ?_
    rw [tS_len]; exact h _ { s with toks := s.toks + 1 + 1 } rfl ⟨rfl, rfl, rfl⟩
  | false =>
    obtain ⟨t, rfl⟩ := hv.byt
    refine len_bytes (by rw [bA_size]; omega) ?_
    rw [bA_size]; exact h _ { s with toks := s.toks + 1 + 1 } rfl ⟨rfl, rfl, rfl⟩
theorem pAdd {Q : Value → Shared → Prop} (hv : PV k l v) (hv' : PV k l' v') (hn : l.length + l'.length ≤ 1000000) (h : ∀ r s', s'.heap = s.heap → Like s s' → PV k (l ++ l') r → Q r s') : wpAny (model prog w) A (binaryOp .Add v v') Q E s := by
  cases k with
  | true =>
    obtain ⟨t, rfl⟩ := hv.str; obtain ⟨t', rfl⟩ := hv'.str
    refine zAddS rfl rfl (by rw [sizeLine_eq]; omega) fun t'' tk => ?_
    exact h _ { s with toks := tk } rfl ⟨rfl, rfl, rfl⟩ (pv_str (b256_append hv.1 hv'.1))
  | false =>
    obtain ⟨t, rfl⟩ := hv.byt; obtain ⟨t', rfl⟩ := hv'.byt
    refine KBy.add_bytes (by rw [bA_size, bA_size]; omega) fun t'' tk => ?_
    rw [bA_append]; exact h _ { s with toks := tk } rfl ⟨rfl, rfl, rfl⟩ (pv_byt (b256_append hv.1 hv'.1))
theorem bytes_beq (ha : B256 l) (hb : B256 l') : ((bA l).toList == (bA l').toList) = decide (l = l') := by
  rw [bA_toList, bA_toList]
  by_cases h : l = l'
  · subst h; simp
  · have : ¬ (l.map (fun n => UInt8.ofNat n) = l'.map fun n => UInt8.ofNat n) := fun e => h (mapU8_inj ha hb e)
    simp [h, this]
theorem b256_lay (h : B256 l) : (PyData.str (tS l)).canLay0 = true := by
  simp only [PyData.canLay0, PyData.strOk, tS, List.all_toArray, List.all_eq_true, decide_eq_true_eq]
  intro c hc; have := h c hc; omega
theorem pEq {n : Nat} {Q : Value → Shared → Prop} (hA : Rm A n) (hv : PV k l v) (hv' : PV k l' v') (h : Q (.bool (decide (l = l'))) s) : wpAny (model prog w) A (compareOp .Eq v v') Q E s := by
  cases k with
  | true =>
    obtain ⟨t, rfl⟩ := hv.str; obtain ⟨t', rfl⟩ := hv'.str
    refine zEqD hA (stays_refl _) ⟨_, .str _ _⟩ ⟨_, .str _ _⟩ (b256_lay hv.1) (b256_lay hv'.1) (by simp [PyData.depth]) ?_
    rw [eqv_str]; exact h
  | false =>
    obtain ⟨t, rfl⟩ := hv.byt; obtain ⟨t', rfl⟩ := hv'.byt
    refine eq_bytes ?_
    rw [bytes_beq hv.1 hv'.1]; exact h
theorem pNe {n : Nat} {Q : Value → Shared → Prop} (hA : Rm A n) (hv : PV k l v) (hv' : PV k l' v') (h : Q (.bool (!decide (l = l'))) s) : wpAny (model prog w) A (compareOp .NotEq v v') Q E s := by
  cases k with
  | true =>
    obtain ⟨t, rfl⟩ := hv.str; obtain ⟨t', rfl⟩ := hv'.str
    refine zNeD hA (stays_refl _) ⟨_, .str _ _⟩ ⟨_, .str _ _⟩ (b256_lay hv.1) (b256_lay hv'.1) (by simp [PyData.depth]) ?_
    rw [eqv_str]; exact h
  | false =>
    obtain ⟨t, rfl⟩ := hv.byt; obtain ⟨t', rfl⟩ := hv'.byt
    refine ne_bytes ?_
    rw [bne, bytes_beq hv.1 hv'.1]; exact h
theorem pIsBytes {Q : Value → Shared → Prop} (hv : PV k l v) (h : ∀ s', s'.heap = s.heap → Like s s' → Q (.bool (!k)) s') : wpAny (model prog w) A (call (.builtin "isinstance") [v, .type "bytes"]) Q E s := by
  cases k with
  | true =>
    obtain ⟨t, rfl⟩ := hv.str
    exact IsiPair.str_bytes (h { s with toks := s.toks + 1 } rfl ⟨rfl, rfl, rfl⟩)
  | false =>
    obtain ⟨t, rfl⟩ := hv.byt
    exact call_isinstance_yes (typeIs_bytes _ _ _) meta_bytes' sub_bytes_bytes' (h s rfl (Like.refl _))
def kT (k : Bool) : String := kid k "str" "bytes"
theorem pType {Q : Value → Shared → Prop} (hv : PV k l v) (h : Q (.type (kT k)) s) : wpAny (model prog w) A (call (.type "type") [v]) Q E s := by
  cases k with
  | true => obtain ⟨t, rfl⟩ := hv.str; exact zType (T := "str") (.inl ⟨_, _, rfl, rfl⟩) h
  | false => obtain ⟨t, rfl⟩ := hv.byt; exact zType (T := "bytes") (.inr ⟨_, _, rfl, rfl⟩) h
theorem pIssub {tp : Addr} {n : Nat} {Q : Value → Shared → Prop} (htp : s.heap.get? tp = some (TO [.type "str", .type "bytes"] n)) (hq : Q (.bool true) s) : wpAny (model prog w) A (call (.builtin "issubclass") [.type (kT k), .ref tp]) Q E s := by
  cases k with
  | true => exact zIssub (T := "str") htp sub_str_str' (by intro e; cases e) hq
  | false => exact zIssub (T := "bytes") htp sub_bytes_str' (fun _ => sub_bytes_bytes') hq
end

section
variable {prog : Program} {w : World} {A : Around} {E : Value → Shared → Prop} {s : Shared} {z : Heap} {mg mb : Str → Option Value} {k : Bool} {l : List Nat} {v : Value}
set_option maxHeartbeats 1000000
theorem fspath_spec {Q : Value → Shared → Prop} (Am : Amb (KK w) mg mb z) (hz : z.StaysIn s.heap) (hA : Rm A 1) (hv : PV k l v)
    (hQ : ∀ z' s', Step z s.heap z' s'.heap → Like s s' → Q v s') : wpAny (model prog w) A (call (.ref 115) [v]) Q E s := by
  refine zDef (binds := [(Str.ofString "path", v)]) Am hz hA rfl rfl rfl rfl ?_
  intro L s₁ E' A' F l R
  repeat' walk_at "z1"
  refine pType hv ?_
  repeat' walk_at "z1"
  refine zTup (by assumption) (by walk_at "zsz") ?_
  intro tb z₂ s₂ F₂ hz₂ htb l₂
  repeat' walk_at "z1"
  refine pIssub (F₂.keep _ _ htb) ?_
  repeat' walk_at "z1"
  exact hQ _ _ F₂.done (by walk_at "like")
theorem getsep_spec {Q : Value → Shared → Prop} (Am : Amb (KK w) mg mb z) (hz : z.StaysIn s.heap) (hA : Rm A 1) (hv : PV k l v)
    (hQ : ∀ z' s' r, Step z s.heap z' s'.heap → Like s s' → PV k [47] r → Q r s') : wpAny (model prog w) A (call (.ref 129) [v]) Q E s := by
  refine zDef (binds := [(Str.ofString "path", v)]) Am hz hA rfl rfl rfl rfl ?_
  intro L s₁ E' A' F l R
  repeat' walk_at "z1"
  refine pIsBytes hv ?_
  intro s₂ hs₂ l₂
  have F := hs₂ ▸ F
  repeat' walk_at "z1"
  have hb : B256 [47] := by intro c hc; simp at hc; omega
  cases k with
  | true =>
    refine iteF ?_
    repeat' walk_at "z1"
    exact hQ _ _ _ (Fz.done (by assumption)) (by walk_at "like") (pv_str hb)
  | false =>
    refine iteT ?_
    repeat' walk_at "z1"
    exact hQ _ _ _ (Fz.done (by assumption)) (by walk_at "like") (pv_byt hb)
end

namespace BM
theorem slot_rfind : Slot "bytes" "rfind" "bytes.rfind" :=
  .of (owner := "bytes") (n := "rfind") (by rw [typeLookup_type, builtinLookup_eq_fast]; kernel_rfl) (by decide +kernel) (by decide +kernel) (by decide +kernel)
    (by first | exact .inl (by decide +kernel) | exact .inr (by decide +kernel)) (by rw [isSubtype_type]; kernel_rfl)
theorem type_rfind : typeOf (.builtin "bytes.rfind") = pure (.type "method_descriptor") := by show builtinType _ = _; rw [builtinType_eq_fast]; kernel_rfl
theorem entry_rfind : entryFor table "bytes.rfind" = some Builtin.«bytes.rfind» := entryFor_of_tree (by kernel_rfl)
theorem args_rfind (a b : Value) : argsOk "bytes.rfind" ⟨[a, b], []⟩ := by unfold argsOk; kernel_rfl
theorem slot_rstrip : Slot "bytes" "rstrip" "bytes.rstrip" :=
  .of (owner := "bytes") (n := "rstrip") (by rw [typeLookup_type, builtinLookup_eq_fast]; kernel_rfl) (by decide +kernel) (by decide +kernel) (by decide +kernel)
    (by first | exact .inl (by decide +kernel) | exact .inr (by decide +kernel)) (by rw [isSubtype_type]; kernel_rfl)
theorem type_rstrip : typeOf (.builtin "bytes.rstrip") = pure (.type "method_descriptor") := by show builtinType _ = _; rw [builtinType_eq_fast]; kernel_rfl
theorem entry_rstrip : entryFor table "bytes.rstrip" = some Builtin.«bytes.rstrip» := entryFor_of_tree (by kernel_rfl)
theorem args_rstrip (a b : Value) : argsOk "bytes.rstrip" ⟨[a, b], []⟩ := by unfold argsOk; kernel_rfl
theorem slot_split : Slot "bytes" "split" "bytes.split" :=
  .of (owner := "bytes") (n := "split") (by rw [typeLookup_type, builtinLookup_eq_fast]; kernel_rfl) (by decide +kernel) (by decide +kernel) (by decide +kernel)
    (by first | exact .inl (by decide +kernel) | exact .inr (by decide +kernel)) (by rw [isSubtype_type]; kernel_rfl)
theorem type_split : typeOf (.builtin "bytes.split") = pure (.type "method_descriptor") := by show builtinType _ = _; rw [builtinType_eq_fast]; kernel_rfl
theorem entry_split : entryFor table "bytes.split" = some Builtin.«bytes.split» := entryFor_of_tree (by kernel_rfl)
theorem args_split (a b : Value) : argsOk "bytes.split" ⟨[a, b], []⟩ := by unfold argsOk; kernel_rfl
theorem slot_join : Slot "bytes" "join" "bytes.join" :=
  .of (owner := "bytes") (n := "join") (by rw [typeLookup_type, builtinLookup_eq_fast]; kernel_rfl) (by decide +kernel) (by decide +kernel) (by decide +kernel)
    (by first | exact .inl (by decide +kernel) | exact .inr (by decide +kernel)) (by rw [isSubtype_type]; kernel_rfl)
theorem type_join : typeOf (.builtin "bytes.join") = pure (.type "method_descriptor") := by show builtinType _ = _; rw [builtinType_eq_fast]; kernel_rfl
theorem entry_join : entryFor table "bytes.join" = some Builtin.«bytes.join» := entryFor_of_tree (by kernel_rfl)
theorem args_join (a b : Value) : argsOk "bytes.join" ⟨[a, b], []⟩ := by unfold argsOk; kernel_rfl
section
open Builtin Builtin.Bytes
variable {prog : Program} {w : World} {A : Around} {E : Value → Shared → Prop} {s : Shared} {b c : Array UInt8} {t u : Tok}
theorem some13 (id n : String) (a x : Value) : selfAndSome id n 1 3 ⟨[a, x], []⟩ = pure (a, [x]) := by rfl
theorem some01 (id n : String) (a x : Value) : selfAndSome id n 0 1 ⟨[a, x], []⟩ = pure (a, [x]) := by rfl
theorem payload_eq : payload (.bytes b t) = pure b := rfl
theorem window_none (n : Nat) : window n none none = (0, (n : Int)) := by
  unfold window
  have : ¬ ((n : Int) < 0) := by omega
  simp [this]
theorem rfind_call {Q : Value → Shared → Prop} (h : Q (.int (match rfind? b #[47] 0 b.size with | some i => (i : Int) | none => -1) s.toks) { s with toks := s.toks + 1 }) :
    wpAny (model prog w) A (call (.builtin "bytes.rfind") [.bytes b t, .bytes #[47] u]) Q E s := by
  refine wpAny_call_entry slot_rfind (typeIs_bytes s b t) entry_rfind ?_ (args_rfind _ _)
  show wpAny _ _ (searchArgs .bytes "rfind" ⟨[.bytes b t, .bytes #[47] u], []⟩ >>= fun r => _) _ _ s
  refine wpAny_bind ?_
  show wpAny _ _ (selfAndSome _ "rfind" 1 3 ⟨[.bytes b t, .bytes #[47] u], []⟩ >>= fun r => _) _ _ s
  rw [some13]
  refine wpAny_bind (wpAny_pure ?_)
  show wpAny _ _ (buffer? _ (.bytes #[47] u) >>= fun r => _) _ _ s
  refine wpAny_bind (wpAny_of_eq KBy.buffer_eq ?_)
  show wpAny _ _ (payload (.bytes b t) >>= fun r => _) _ _ s
  rw [payload_eq]
  refine wpAny_bind (wpAny_pure ?_)
  refine wpAny_bind (wpAny_pure ?_)
  rw [window_none]
  refine wpAny_pure ?_
  dsimp only
  have key : (Option.bind (if (b.size : Int) - 0 < ((#[47] : Array UInt8).size : Int) then none else some ((0 : Int).toNat, ((b.size : Int)).toNat)) fun x => match x with | (lo, hi) => if true = true then rfind? b #[47] lo hi else find? b #[47] lo hi) = rfind? b #[47] 0 b.size := by
    by_cases hb : (b.size : Int) - 0 < ((#[47] : Array UInt8).size : Int)
    · rw [if_pos hb]
      have h0 : b.size = 0 := by simp at hb; omega
      simp [rfind?, h0]
    · rw [if_neg hb]; rfl
  rw [key]
  cases hr : rfind? b #[47] 0 b.size with
  | some i =>
    rw [hr] at h
    exact wpAny_bind (wpAny_mkInt (wpAny_pure ⟨_, rfl, h⟩))
  | none =>
    rw [hr] at h
    refine wpAny_bind (wpAny_rule ?_)
    exact wpAny_bind (wpAny_mkInt (wpAny_pure ⟨_, rfl, h⟩))
theorem sub_bytes_tuple' : isSubtype (.type "bytes") (.type "tuple") = pure false := by rw [isSubtype_type]; kernel_rfl
theorem tail_call {Q : Value → Shared → Prop} {at' : Bool} {name : String} (h : Q (.bool (if ((b.size : Int) - 0 < ((#[47] : Array UInt8).size : Int)) then false else if at' = true then b.extract (((b.size : Int)).toNat - (#[47] : Array UInt8).size) ((b.size : Int)).toNat == #[47] else b.extract (0 : Int).toNat ((0 : Int).toNat + (#[47] : Array UInt8).size) == #[47])) s) :
    wpAny (model prog w) A (tailMatchM .bytes name at' ⟨[.bytes b t, .bytes #[47] u], []⟩) (fun fin s' => ∃ v, fin = .done (.ret v) ∧ Q v s') E s := by
  show wpAny _ _ (selfAndSome _ name 1 3 ⟨[.bytes b t, .bytes #[47] u], []⟩ >>= fun r => _) _ _ s
  rw [some13]
  refine wpAny_bind (wpAny_pure ?_)
  refine wpAny_bind (wpAny_of_eq (a := none) rfl ?_)
  refine wpAny_bind (wpAny_of_eq (a := none) rfl ?_)
  refine wpAny_bind (wpAny_of_eq (a := b) rfl ?_)
  rw [window_none]
  dsimp only
  refine wpAny_bind (wpAny_isInstance (typeIs_bytes _ _ _) sub_bytes_tuple' ?_)
  refine wpAny_ite ?_
  rw [if_neg Bool.false_ne_true]
  refine wpAny_bind (wpAny_of_eq KBy.buffer_eq ?_)
  exact wpAny_pure ⟨_, rfl, h⟩
theorem rstrip_call {Q : Value → Shared → Prop} (hn : b.size ≤ 16777216) (h : ∀ t' k, Q (.bytes (b.toList.reverse.dropWhile (fun x => x == 47)).reverse.toArray t') { s with toks := k }) :
    wpAny (model prog w) A (call (.builtin "bytes.rstrip") [.bytes b t, .bytes #[47] u]) Q E s := by
  refine wpAny_call_entry slot_rstrip (typeIs_bytes s b t) entry_rstrip ?_ (args_rstrip _ _)
  show wpAny _ _ (selfAndSome _ "rstrip" 0 1 ⟨[.bytes b t, .bytes #[47] u], []⟩ >>= fun r => _) _ _ s
  rw [some01]
  refine wpAny_bind (wpAny_pure ?_)
  show wpAny _ _ (bytesLike _ (.bytes #[47] u) >>= fun r => _) _ _ s
  refine wpAny_bind ?_
  unfold bytesLike
  refine wpAny_bind (wpAny_of_eq KBy.buffer_eq (wpAny_pure ?_))
  refine wpAny_bind (wpAny_pure ?_)
  refine wpAny_bind (wpAny_of_eq (a := b) rfl ?_)
  have e : (#[47] : Array UInt8).contains = fun x => x == 47 := by
    funext x; simp
    by_cases hx : x = 47 <;> simp [hx]
  simp only [if_true, Bool.false_eq_true, if_false]
  rw [e]
  refine wpAny_ite ?_
  split
  · rename_i hl
    have hl := eq_of_beq hl
    have hsame : (b.toList.reverse.dropWhile fun x => x == 47).reverse = b.toList := by
      have h1 := List.dropWhile_suffix (l := b.toList.reverse) (fun x : UInt8 => x == 47)
      have h2 : (b.toList.reverse.dropWhile fun x => x == 47) = b.toList.reverse := h1.eq_of_length (by simpa using hl)
      rw [h2, List.reverse_reverse]
    refine wpAny_bind (wpAny_rule ?_)
    refine wpAny_bind ?_
    show wpAny _ _ (typeOf (.bytes b t) >>= fun r => _) _ _ s
    refine wpAny_bind (wpAny_typeOf (typeIs_bytes s b t) ?_)
    refine wpAny_pure (wpAny_pure ⟨_, rfl, ?_⟩)
    have := h t s.toks
    rw [hsame] at this; simpa using this
  · refine wpAny_bind (wpAny_mkBytes (wpAny_pure ⟨_, rfl, ?_⟩) ?_)
    · exact h _ _
    · have h1 := (List.dropWhile_suffix (l := b.toList.reverse) (fun x : UInt8 => x == 47)).length_le
      rw [List.size_toArray, List.length_reverse, sizeLine_eq]
      simp at h1 ⊢
      omega
end
end BM

namespace BM
section
open Builtin Builtin.Bytes
variable {prog : Program} {w : World} {A : Around} {E : Value → Shared → Prop} {s : Shared} {b c : Array UInt8} {t u : Tok}
theorem bindSplit (id : String) (x : Value) : bindOptional id "split" ["sep", "maxsplit"] [x] [] = pure [some x, none] := by kernel_rfl
def bsplit (b : Array UInt8) : List (Array UInt8) := if ((occurrences b #[47] 0 b.size).take (b.size + 1)).isEmpty = true then [b] else between b 1 ((occurrences b #[47] 0 b.size).take (b.size + 1))
theorem mapM_new {Q : List Value → Shared → Prop} : ∀ (ls : List (Array UInt8)) (s : Shared), (∀ x ∈ ls, x.size ≤ sizeLine) → (∀ vs tk, Paired (fun v a => ∃ t, v = Value.bytes a t) vs ls → Q vs { s with toks := tk }) → wpAny (model prog w) A (ls.mapM Kind.bytes.new) Q E s
  | [], s, _, h => wpAny_pure (by simpa using h [] s.toks .nil)
  | a :: ls, s, hs, h => by
    rw [List.mapM_cons]
    refine wpAny_bind (wpAny_mkBytes ?_ (hs a (by simp)))
    refine wpAny_bind (mapM_new ls _ (fun x hx => hs x (by simp [hx])) fun vs tk hp => ?_)
    exact wpAny_pure (h _ tk (.cons ⟨_, rfl⟩ hp))
theorem split_call {Q : Value → Shared → Prop} (hn : ∀ x ∈ bsplit b, x.size ≤ sizeLine) (hl : (bsplit b).length ≤ sizeLine)
    (h : ∀ vs tk, Paired (fun v a => ∃ t, v = Value.bytes a t) vs (bsplit b) → wpAny (model prog w) A.in1 (newList vs) Q E { s with toks := tk }) :
    wpAny (model prog w) A (call (.builtin "bytes.split") [.bytes b t, .bytes #[47] u]) Q E s := by
  refine wpAny_call_entry slot_split (typeIs_bytes s b t) entry_split ?_ (args_split _ _)
  show wpAny _ _ (bindOptional _ "split" ["sep", "maxsplit"] [.bytes #[47] u] [] >>= fun r => _) _ _ s
  rw [bindSplit]
  refine wpAny_bind (wpAny_pure ?_)
  refine wpAny_bind (wpAny_of_eq (a := (-1 : Int)) rfl ?_)
  refine wpAny_bind (wpAny_of_eq (a := b) rfl ?_)
  dsimp only
  refine wpAny_bind ?_
  unfold bytesLike
  refine wpAny_bind (wpAny_of_eq KBy.buffer_eq (wpAny_pure ?_))
  have e1 : (if (-1 : Int) < 0 then b.size + 1 else (-1 : Int).toNat) = b.size + 1 := by simp
  simp only [e1, Bool.false_eq_true, if_false]
  rw [if_neg (show ¬ ((#[47] : Array UInt8).isEmpty = true) by decide)]
  unfold bsplit at h hn
  refine wpAny_ite ?_
  by_cases hp : ((occurrences b #[47] 0 b.size).take (b.size + 1)).isEmpty = true
  · rw [if_pos hp] at h hn ⊢
    refine wpAny_bind (wpAny_rule ?_)
    refine wpAny_bind ?_
    show wpAny _ _ (typeOf (.bytes b t) >>= fun r => _) _ _ s
    refine wpAny_bind (wpAny_typeOf (typeIs_bytes s b t) ?_)
    refine wpAny_pure ?_
    refine wpAny_bind (wpAny_mono (h [.bytes b t] s.toks (.cons ⟨_, rfl⟩ .nil)) (fun v s' q => wpAny_pure ⟨_, rfl, q⟩) fun _ _ y => y)
  · rw [if_neg hp] at h hn ⊢
    refine wpAny_bind (mapM_new _ s hn fun vs tk hpd => ?_)
    exact wpAny_bind (wpAny_mono (h vs tk hpd) (fun v s' q => wpAny_pure ⟨_, rfl, q⟩) fun _ _ y => y)
end
end BM

/-! the plain law, 1: cutting at slashes -/
def cutR : List Nat → List (List Nat)
  | [] => [[]]
  | c :: cs => if c = 47 then [] :: cutR cs else match cutR cs with | [] => [[c]] | p :: r => (c :: p) :: r
theorem cutR_ne : ∀ cs, cutR cs ≠ []
  | [] => by simp [cutR]
  | c :: cs => by
    unfold cutR; split
    · simp
    · split <;> simp
def glue (x : List Nat) : List (List Nat) → List (List Nat)
  | [] => [x]
  | p :: r => (x ++ p) :: r
theorem cutR_cons_free {c : Nat} {cs : List Nat} (h : ¬ c = 47) : cutR (c :: cs) = glue [c] (cutR cs) := by
  show (if c = 47 then _ else _) = _
  rw [if_neg h]
  cases cutR cs <;> rfl
theorem glue_glue (x y : List Nat) : ∀ l, l ≠ [] → glue x (glue y l) = glue (x ++ y) l
  | [], h => absurd rfl h
  | p :: r, _ => by simp [glue]
theorem cutFold : ∀ (cs : List Nat) (acc : List (List Nat)) (cur : List Nat), (cs.foldl cutStep (acc, cur)).1 ++ [(cs.foldl cutStep (acc, cur)).2] = acc ++ glue cur (cutR cs)
  | [], acc, cur => by simp [cutR, glue]
  | c :: cs, acc, cur => by
    rw [List.foldl_cons]
    by_cases h : c = 47
    · have e : cutStep (acc, cur) c = (acc ++ [cur], []) := by simp [cutStep, h]
      rw [e, cutFold cs]
      have e2 : cutR (c :: cs) = [] :: cutR cs := by show (if c = 47 then _ else _) = _; rw [if_pos h]
      rw [e2]
      have e3 : glue [] (cutR cs) = cutR cs := by
        have := cutR_ne cs
        cases hc : cutR cs with
        | nil => exact absurd hc this
        | cons p r => rfl
      rw [e3]; simp [glue]
    · have e : cutStep (acc, cur) c = (acc, cur ++ [c]) := by simp [cutStep, h]
      rw [e, cutFold cs, cutR_cons_free h, glue_glue _ _ _ (cutR_ne cs)]
theorem cut47_eq (cs : List Nat) : cut47 cs = cutR cs := by
  have := cutFold cs [] []
  unfold cut47 cutSt
  rw [this]
  have := cutR_ne cs
  cases hc : cutR cs with
  | nil => exact absurd hc this
  | cons p r => rfl
theorem cutR_app : ∀ (a b : List Nat), cutR (a ++ 47 :: b) = cutR a ++ cutR b
  | [], b => by simp [cutR]
  | c :: a, b => by
    by_cases h : c = 47
    · subst h
      show ([] :: cutR (a ++ 47 :: b)) = ([] :: cutR a) ++ cutR b
      rw [cutR_app a b]; rfl
    · rw [List.cons_append, cutR_cons_free h, cutR_cons_free h, cutR_app a b]
      have := cutR_ne a
      cases hc : cutR a with
      | nil => exact absurd hc this
      | cons p r => rfl
theorem cutR_pre : ∀ (p x : List Nat), 47 ∉ p → cutR (p ++ x) = glue p (cutR x)
  | [], x, _ => by
    have := cutR_ne x
    cases hc : cutR x with
    | nil => exact absurd hc this
    | cons p r => simp [hc, glue]
  | c :: p, x, h => by
    have h1 : ¬ c = 47 := fun e => h (by simp [e])
    rw [List.cons_append, cutR_cons_free h1, cutR_pre p x (fun e => h (by simp [e])), glue_glue _ _ _ (cutR_ne x)]
    rfl
theorem cutR_free (p : List Nat) (h : 47 ∉ p) : cutR p = [p] := by
  have := cutR_pre p [] h
  simpa [cutR, glue] using this
theorem glue_ne (p : List Nat) (l : List (List Nat)) : glue p l ≠ [] := by cases l <;> simp [glue]
/-- uniqueness -/
theorem jn_cons {sep x : List Nat} {l : List (List Nat)} (h : l ≠ []) : jn sep (x :: l) = x ++ sep ++ jn sep l := by
  cases l with
  | nil => exact absurd rfl h
  | cons y r => rfl
theorem cut_unique : ∀ (ls : List (List Nat)), ls ≠ [] → (∀ p ∈ ls, 47 ∉ p) → cutR (jn [47] ls) = ls
  | [], h, _ => absurd rfl h
  | [x], _, h => by show cutR x = [x]; exact cutR_free x (h x (by simp))
  | x :: y :: r, _, h => by
    have ih := cut_unique (y :: r) (by simp) (fun p hp => h p (by simp only [List.mem_cons] at hp ⊢; exact .inr hp))
    show cutR (x ++ [47] ++ jn [47] (y :: r)) = _
    rw [show x ++ [47] ++ jn [47] (y :: r) = x ++ 47 :: jn [47] (y :: r) by simp, cutR_app, cutR_free x (h x (by simp)), ih]
    rfl
theorem cutR_mem : ∀ (cs : List Nat), ∀ p ∈ cutR cs, 47 ∉ p ∧ ∀ c ∈ p, c ∈ cs
  | [], p, hp => by simp [cutR] at hp; subst hp; simp
  | c :: cs, p, hp => by
    have ih := cutR_mem cs
    by_cases h : c = 47
    · have e : cutR (c :: cs) = [] :: cutR cs := by show (if c = 47 then _ else _) = _; rw [if_pos h]
      rw [e] at hp
      rcases List.mem_cons.mp hp with rfl | hp
      · simp
      · exact ⟨(ih p hp).1, fun x hx => List.mem_cons_of_mem _ ((ih p hp).2 x hx)⟩
    · rw [cutR_cons_free h] at hp
      have := cutR_ne cs
      cases hc : cutR cs with
      | nil => exact absurd hc this
      | cons q r =>
        rw [hc] at hp ih
        rcases List.mem_cons.mp hp with rfl | hp
        · have iq := ih q (by simp)
          refine ⟨fun hx => ?_, fun x hx => ?_⟩
          · rcases List.mem_append.mp hx with hx | hx
            · simp at hx; exact h hx.symm
            · exact iq.1 hx
          · rcases List.mem_append.mp hx with hx | hx
            · simp at hx; subst hx; simp
            · exact List.mem_cons_of_mem _ (iq.2 x hx)
        · exact ⟨(ih p (by simp [hp])).1, fun x hx => List.mem_cons_of_mem _ ((ih p (by simp [hp])).2 x hx)⟩
/-- the pieces that are not empty -/
def Np (l : List Nat) : List (List Nat) := (cutR l).filter fun p => p ≠ []
theorem Np_app (a b : List Nat) : Np (a ++ 47 :: b) = Np a ++ Np b := by simp [Np, cutR_app]
theorem Np_nil : Np [] = [] := by simp [Np, cutR]
theorem Np_mem {l p : List Nat} (h : p ∈ Np l) : p ≠ [] ∧ 47 ∉ p ∧ ∀ c ∈ p, c ∈ l := by
  have := List.mem_filter.mp h
  exact ⟨by simpa using this.2, cutR_mem l p this.1⟩
theorem Np_slash (b : List Nat) : Np (47 :: b) = Np b := by have := Np_app [] b; rw [Np_nil] at this; simpa using this
def lead (l : List Nat) : Nat := (l.takeWhile fun c => c = 47).length
def joinStep (path b : List Nat) : List Nat :=
  if b.head? = some 47 ∨ path = [] then b else if path.getLast? = some 47 then path ++ b else path ++ (47 :: b)
theorem Np_join {path b : List Nat} (hb : ¬ b.head? = some 47) : Np (joinStep path b) = Np path ++ Np b := by
  unfold joinStep
  by_cases h1 : path = []
  · rw [if_pos (.inr h1), h1, Np_nil]; rfl
  · rw [if_neg (fun e => e.elim hb h1)]
    split
    · rename_i h2
      obtain ⟨p, rfl⟩ : ∃ p, path = p ++ [47] := by
        obtain ⟨p, e⟩ := List.getLast?_eq_some_iff.mp h2; exact ⟨p, e⟩
      rw [List.append_assoc, show [47] ++ b = 47 :: b by rfl, Np_app, show p ++ [47] = p ++ 47 :: [] by rfl, Np_app, Np_nil, List.append_nil]
    · rw [Np_app]
theorem takeWhile_app {p : Nat → Bool} : ∀ (a b : List Nat), (¬ ∀ x ∈ a, p x = true) → (a ++ b).takeWhile p = a.takeWhile p
  | [], _, h => absurd (by simp) h
  | x :: a, b, h => by
    cases hx : p x with
    | false => simp [hx]
    | true =>
      simp only [List.cons_append, List.takeWhile_cons, hx, if_true]
      rw [takeWhile_app a b (fun e => h (by intro y hy; rcases List.mem_cons.mp hy with rfl | hy; exact hx; exact e y hy))]
theorem takeWhile_all {p : Nat → Bool} : ∀ (a b : List Nat), (∀ x ∈ a, p x = true) → (a ++ b).takeWhile p = a ++ b.takeWhile p
  | [], _, _ => rfl
  | x :: a, b, h => by
    simp only [List.cons_append, List.takeWhile_cons, h x (by simp), if_true]
    rw [takeWhile_all a b (fun y hy => h y (by simp [hy]))]
theorem lead_zero {b : List Nat} (hb : ¬ b.head? = some 47) : lead b = 0 := by
  cases b with
  | nil => rfl
  | cons c b =>
    have : ¬ c = 47 := fun e => hb (by simp [e])
    simp [lead, this]
theorem lead_join {path b : List Nat} (hb : ¬ b.head? = some 47) : lead (joinStep path b) = lead path := by
  unfold joinStep
  by_cases h1 : path = []
  · rw [if_pos (.inr h1), h1, lead_zero hb]; rfl
  · rw [if_neg (fun e => e.elim hb h1)]
    split
    · unfold lead
      by_cases ha : ∀ x ∈ path, (decide (x = 47)) = true
      · rw [takeWhile_all _ _ ha]
        have h2 : path.takeWhile (fun c => decide (c = 47)) = path := by have := takeWhile_all path [] ha; simpa using this
        have h3 := lead_zero hb
        unfold lead at h3
        rw [List.length_append, h3, h2]; rfl
      · rw [takeWhile_app _ _ ha]
    · rename_i h2
      unfold lead
      rw [takeWhile_app]
      intro ha
      obtain ⟨q, x, e⟩ : ∃ q x, path = q ++ [x] := ⟨path.dropLast, path.getLast h1, (List.dropLast_concat_getLast h1).symm⟩
      subst e
      have := ha x (by simp)
      apply h2
      simp at this ⊢; exact this

/-! the plain law, 2: joining, the fold of normpath and the debt from behind -/
def joinP : List (List Nat) → List Nat
  | [] => []
  | a :: ps => ps.foldl joinStep a
theorem joinP_snoc (ps : List (List Nat)) (b : List Nat) (h : ps ≠ []) : joinP (ps ++ [b]) = joinStep (joinP ps) b := by
  cases ps with
  | nil => exact absurd rfl h
  | cons a ps => simp [joinP]
def absIdx (ps : List (List Nat)) : List Nat := (List.range ps.length).filter fun i => (ps.getD i []).head? = some 47
def maxL (l : List Nat) : Nat := l.foldl max 0
theorem maxL_snoc (l : List Nat) (x : Nat) : maxL (l ++ [x]) = max (maxL l) x := by simp [maxL]
theorem foldl_max_le {b : Nat} : ∀ (l : List Nat) (a : Nat), a ≤ b → (∀ x ∈ l, x ≤ b) → l.foldl max a ≤ b
  | [], a, h, _ => h
  | x :: l, a, h, hl => by
    rw [List.foldl_cons]
    exact foldl_max_le l _ (Nat.max_le.mpr ⟨h, hl x (by simp)⟩) (fun y hy => hl y (by simp [hy]))
theorem maxL_le {b : Nat} {l : List Nat} (hl : ∀ x ∈ l, x ≤ b) : maxL l ≤ b := foldl_max_le l 0 (Nat.zero_le _) hl
def firstP (ps : List (List Nat)) : Nat := maxL (absIdx ps)
theorem absIdx_snoc (ps : List (List Nat)) (b : List Nat) : absIdx (ps ++ [b]) = absIdx ps ++ (if b.head? = some 47 then [ps.length] else []) := by
  unfold absIdx
  rw [List.length_append, List.length_singleton, List.range_succ, List.filter_append]
  congr 1
  · apply List.filter_congr
    intro i hi
    have := List.mem_range.mp hi
    simp [List.getD_eq_getElem?_getD, List.getElem?_append_left this]
  · by_cases hb : b.head? = some 47 <;> simp [List.getD_eq_getElem?_getD, List.filter_cons, hb]
theorem firstP_lt {ps : List (List Nat)} (h : ps ≠ []) : firstP ps < ps.length := by
  have hp : 0 < ps.length := List.length_pos_iff.mpr h
  have : firstP ps ≤ ps.length - 1 := maxL_le fun x hx => by
    have := List.mem_range.mp (List.mem_filter.mp hx).1
    omega
  omega
theorem firstP_snoc (ps : List (List Nat)) (b : List Nat) : firstP (ps ++ [b]) = if b.head? = some 47 then ps.length else firstP ps := by
  unfold firstP
  rw [absIdx_snoc]
  split
  · rw [maxL_snoc]
    have : maxL (absIdx ps) ≤ ps.length := maxL_le fun x hx => by
      have := List.mem_range.mp (List.mem_filter.mp hx).1
      omega
    omega
  · simp
theorem join_chars : ∀ (n : Nat) (ps : List (List Nat)), ps.length = n → ps ≠ [] → Np (joinP ps) = (ps.drop (firstP ps)).flatMap Np ∧ lead (joinP ps) = lead (ps.getD (firstP ps) [])
  | 0, ps, hn, h => absurd (List.length_eq_zero_iff.mp hn) h
  | n + 1, ps, hn, h => by
    obtain ⟨qs, b, rfl⟩ : ∃ qs b, ps = qs ++ [b] := ⟨ps.dropLast, ps.getLast h, (List.dropLast_concat_getLast h).symm⟩
    have hq : qs.length = n := by simp at hn; exact hn
    rw [firstP_snoc]
    by_cases hb : b.head? = some 47
    · rw [if_pos hb]
      have e : joinP (qs ++ [b]) = b := by
        cases qs with
        | nil => rfl
        | cons a qs => rw [joinP_snoc _ _ (by simp)]; unfold joinStep; rw [if_pos (.inl hb)]
      rw [e]
      simp
    · rw [if_neg hb]
      by_cases hq0 : qs = []
      · subst hq0; simp [joinP, firstP, absIdx, maxL]
      · have ih := join_chars n qs hq hq0
        have hf := firstP_lt hq0
        rw [joinP_snoc _ _ hq0, Np_join hb, lead_join hb, ih.1, ih.2]
        rw [List.drop_append_of_le_length (Nat.le_of_lt hf), List.flatMap_append]
        refine ⟨by simp, ?_⟩
        simp [List.getD_eq_getElem?_getD, List.getElem?_append_left hf]
/-- normpath's fold -/
def dd : List Nat := [46, 46]
def normStep (ab : Bool) (new : List (List Nat)) (c : List Nat) : List (List Nat) :=
  if c = [] ∨ c = [46] then new else if c ≠ dd ∨ (ab = false ∧ new = []) ∨ new.getLast? = some dd then new ++ [c] else new.dropLast
def debtStep (c : List Nat) (st : Nat × List (List Nat)) : Nat × List (List Nat) :=
  if c = dd then (st.1 + 1, st.2) else if c ≠ [] ∧ c ≠ [46] then (if 0 < st.1 then (st.1 - 1, st.2) else (st.1, c :: st.2)) else st
def debtF (cs : List (List Nat)) : Nat × List (List Nat) := cs.foldr debtStep (0, [])
theorem norm_filter (ab : Bool) : ∀ (cs new : List (List Nat)), cs.foldl (normStep ab) new = (cs.filter fun p => p ≠ []).foldl (normStep ab) new
  | [], _ => rfl
  | c :: cs, new => by
    rw [List.foldl_cons, norm_filter ab cs]
    by_cases h : c = []
    · subst h; simp [normStep]
    · rw [List.filter_cons_of_pos (by simpa using h), List.foldl_cons]
theorem debt_filter : ∀ (cs : List (List Nat)), debtF cs = debtF (cs.filter fun p => p ≠ [])
  | [] => rfl
  | c :: cs => by
    have ih := debt_filter cs
    unfold debtF at ih ⊢
    rw [List.foldr_cons, ih]
    by_cases h : c = []
    · subst h; simp [debtStep, dd]
    · rw [List.filter_cons_of_pos (by simpa using h), List.foldr_cons]
def stk (ab : Bool) (k : Nat) (ns : List (List Nat)) : List (List Nat) := (if ab = true then [] else List.replicate k dd) ++ ns
theorem norm_debt (ab : Bool) : ∀ (cs : List (List Nat)) (k : Nat) (ns : List (List Nat)), (∀ n ∈ ns, n ≠ dd) →
    cs.foldl (normStep ab) (stk ab k ns) = stk ab (k + ((debtF cs).1 - ns.length)) (ns.take (ns.length - (debtF cs).1) ++ (debtF cs).2)
  | [], k, ns, _ => by simp [debtF]
  | c :: cs, k, ns, hns => by
    rw [List.foldl_cons]
    have e : debtF (c :: cs) = debtStep c (debtF cs) := rfl
    rw [e]
    generalize hd : debtF cs = d at *
    obtain ⟨d1, d2⟩ := d
    by_cases h0 : c = [] ∨ c = [46]
    · have e1 : normStep ab (stk ab k ns) c = stk ab k ns := by simp [normStep, h0]
      have e2 : debtStep c (d1, d2) = (d1, d2) := by
        unfold debtStep
        rcases h0 with rfl | rfl <;> simp [dd]
      rw [e1, e2, norm_debt ab cs k ns hns, hd]
    · have h01 : c ≠ [] ∧ c ≠ [46] := by simpa using h0
      by_cases h1 : c = dd
      · have e2 : debtStep c (d1, d2) = (d1 + 1, d2) := by simp [debtStep, h1]
        rw [e2]
        by_cases h2 : ns = []
        · subst h2
          have e1 : normStep ab (stk ab k []) c = stk ab (k + 1) [] := by
            cases ab with
            | true => simp [normStep, h0, h1, stk, dd]
            | false =>
              have hl : (List.replicate k dd = [] ∨ (List.replicate k dd).getLast? = some dd) := by
                cases k with
                | zero => left; rfl
                | succ k => right; rw [List.getLast?_replicate]; simp
              unfold normStep stk
              rw [if_neg h0]
              simp only [Bool.false_eq_true, if_false, List.append_nil, true_and]
              rw [if_pos (.inr hl), h1, List.replicate_succ']
          rw [e1, norm_debt ab cs (k + 1) [] (by simp), hd]
          simp only [List.length_nil, Nat.sub_zero, List.take_nil, List.nil_append]
          congr 1
          omega
        · obtain ⟨q, x, rfl⟩ : ∃ q x, ns = q ++ [x] := ⟨ns.dropLast, ns.getLast h2, (List.dropLast_concat_getLast h2).symm⟩
          have hx : x ≠ dd := hns x (by simp)
          have e0 : stk ab k (q ++ [x]) = stk ab k q ++ [x] := by simp [stk]
          have e1 : normStep ab (stk ab k (q ++ [x])) c = stk ab k q := by
            rw [e0]
            unfold normStep
            rw [if_neg h0, if_neg]
            · simp
            · simp [h1, hx]
          rw [e1, norm_debt ab cs k q (fun n hn => hns n (by simp [hn])), hd]
          have l1 : (q ++ [x]).length = q.length + 1 := by simp
          rw [l1]
          have e3 : q.length + 1 - (d1 + 1) = q.length - d1 := by omega
          have e4 : d1 + 1 - (q.length + 1) = d1 - q.length := by omega
          dsimp only
          rw [e3, e4, List.take_append_of_le_length (by omega)]
      · have e1 : normStep ab (stk ab k ns) c = stk ab k (ns ++ [c]) := by
          unfold normStep
          rw [if_neg h0, if_pos (.inl h1)]
          simp [stk]
        rw [e1, norm_debt ab cs k (ns ++ [c]) (by
          intro n hn
          rcases List.mem_append.mp hn with hn | hn
          · exact hns n hn
          · simp at hn; subst hn; exact h1), hd]
        have l1 : (ns ++ [c]).length = ns.length + 1 := by simp
        rw [l1]
        by_cases h3 : 0 < d1
        · have e2 : debtStep c (d1, d2) = (d1 - 1, d2) := by simp [debtStep, h1, h01, h3]
          rw [e2]
          have e3 : ns.length + 1 - d1 = ns.length - (d1 - 1) := by omega
          have e4 : d1 - (ns.length + 1) = d1 - 1 - ns.length := by omega
          dsimp only
          rw [e3, e4, List.take_append_of_le_length (by omega)]
        · have e2 : debtStep c (d1, d2) = (d1, c :: d2) := by simp [debtStep, h1, h01, h3]
          have hd0 : d1 = 0 := by omega
          subst hd0
          rw [e2]
          dsimp only
          have e3 : (ns ++ [c]).take (ns.length + 1 - 0) = ns ++ [c] := List.take_of_length_le (by simp)
          have e4 : ns.take (ns.length - 0) = ns := List.take_of_length_le (by simp)
          rw [e3, e4]
          simp
theorem norm_debt0 (ab : Bool) (cs : List (List Nat)) : cs.foldl (normStep ab) [] = stk ab (debtF cs).1 (debtF cs).2 := by
  have := norm_debt ab cs 0 [] (by simp)
  have e : stk ab 0 [] = [] := by cases ab <;> rfl
  rw [e] at this
  simpa using this
/-- splitroot, normpath -/
def rootP (l : List Nat) : List Nat × List Nat :=
  if l.take 1 ≠ [47] then ([], l) else if (l.drop 1).take 1 ≠ [47] ∨ (l.drop 2).take 1 = [47] then ([47], l.drop 1) else (l.take 2, l.drop 2)
def orDot (l : List Nat) : List Nat := if l = [] then [46] else l
def normP (l : List Nat) : List Nat := if l = [] then [46] else orDot ((rootP l).1 ++ jn [47] ((cut47 (rootP l).2).foldl (normStep (decide ((rootP l).1 ≠ []))) []))
def rootOf (front : Nat) : List Nat := ([[], [47], [47, 47], [47]] : List (List Nat)).getD (min front 3) []
theorem rootP_spec (l : List Nat) : (rootP l).1 = rootOf (lead l) ∧ Np (rootP l).2 = Np l := by
  match l with
  | [] => simp [rootP, rootOf, lead]
  | a :: l =>
    by_cases ha : a = 47
    · subst ha
      match l with
      | [] => simp [rootP, rootOf, lead, Np_slash]
      | b :: l =>
        by_cases hb : b = 47
        · subst hb
          match l with
          | [] => simp [rootP, rootOf, lead, Np_slash]
          | c :: l =>
            by_cases hc : c = 47
            · subst hc
              have : lead (47 :: 47 :: 47 :: l) = lead l + 3 := by simp [lead]
              rw [this]
              have : min (lead l + 3) 3 = 3 := by omega
              simp [rootP, rootOf, this, Np_slash]
            · simp [rootP, rootOf, lead, hc, Np_slash]
        · simp [rootP, rootOf, lead, hb, Np_slash]
    · simp [rootP, rootOf, lead, ha]
theorem lead_ne (l : List Nat) : rootOf (lead l) ≠ [] ↔ lead l ≠ 0 := by
  unfold rootOf
  have : min (lead l) 3 = 0 ∧ lead l = 0 ∨ min (lead l) 3 = 1 ∧ lead l ≠ 0 ∨ min (lead l) 3 = 2 ∧ lead l ≠ 0 ∨ min (lead l) 3 = 3 ∧ lead l ≠ 0 := by omega
  rcases this with ⟨e, h⟩ | ⟨e, h⟩ | ⟨e, h⟩ | ⟨e, h⟩ <;> rw [e] <;> simp [h]
def compsOf (l : List Nat) : List (List Nat) := stk (decide (lead l ≠ 0)) (debtF (Np l)).1 (debtF (Np l)).2
theorem normP_eq (l : List Nat) : normP l = orDot (rootOf (lead l) ++ jn [47] (compsOf l)) := by
  unfold normP
  by_cases h : l = []
  · subst h; rw [if_pos rfl]; simp [compsOf, Np_nil, lead, debtF, stk, rootOf, jn, orDot]
  · rw [if_neg h]
    have hs := rootP_spec l
    rw [cut47_eq, norm_filter]
    have e : ((cutR (rootP l).2).filter fun p => p ≠ []) = Np l := hs.2
    rw [e, hs.1, norm_debt0]
    have e2 : decide (rootOf (lead l) ≠ []) = decide (lead l ≠ 0) := by simp only [lead_ne]
    rw [e2]; rfl

/-! the plain law, 3: what drawing keeps -/
def Clean (l : List Nat) : Prop := ∀ c ∈ l, c < 256 ∧ c ≠ 174 ∧ c ≠ 175
theorem pic47b : ∀ n < 256, (n == 174 || n == 175 || n == 47 || !(pic n).contains 47) = true := by decide +kernel
theorem pic46b : ∀ n < 256, (n == 174 || n == 175 || n == 46 || !(pic n).contains 46) = true := by decide +kernel
theorem pic47 (n : Nat) (h : n < 256) (h1 : n ≠ 174) (h2 : n ≠ 175) (h3 : n ≠ 47) : 47 ∉ pic n := by simpa [h1, h2, h3] using pic47b n h
theorem pic46 (n : Nat) (h : n < 256) (h1 : n ≠ 174) (h2 : n ≠ 175) (h3 : n ≠ 46) : 46 ∉ pic n := by simpa [h1, h2, h3] using pic46b n h
theorem pic_ne : ∀ n < 256, pic n ≠ [] := by decide +kernel
theorem pic_47 : pic 47 = [47] := by decide
theorem pic_46 : pic 46 = [46] := by decide
theorem clean_cons {c : Nat} {l : List Nat} (h : Clean (c :: l)) : (c < 256 ∧ c ≠ 174 ∧ c ≠ 175) ∧ Clean l := ⟨h c (by simp), fun x hx => h x (by simp [hx])⟩
theorem clean_sub {a b : List Nat} (hb : Clean b) (h : ∀ c ∈ a, c ∈ b) : Clean a := fun c hc => hb c (h c hc)
theorem clean_app {a b : List Nat} (ha : Clean a) (hb : Clean b) : Clean (a ++ b) := fun c hc => (List.mem_append.mp hc).elim (ha c) (hb c)
theorem clean_b256 {l : List Nat} (h : Clean l) : B256 l := fun c hc => (h c hc).1
theorem D_nil : drawn [] = [] := rfl
theorem D_cons (c : Nat) (l : List Nat) : drawn (c :: l) = pic c ++ drawn l := by simp [drawn]
theorem D_app (a b : List Nat) : drawn (a ++ b) = drawn a ++ drawn b := by simp [drawn]
theorem D_eq_nil {l : List Nat} (h : Clean l) : drawn l = [] ↔ l = [] := by
  cases l with
  | nil => simp [drawn]
  | cons c l =>
    have := pic_ne c (h c (by simp)).1
    rw [D_cons]; simp [this]
theorem D_mem47 : ∀ {l : List Nat}, Clean l → 47 ∉ l → 47 ∉ drawn l
  | [], _, _ => by simp [drawn]
  | c :: l, h, hn => by
    obtain ⟨⟨h1, h2, h3⟩, hl⟩ := clean_cons h
    rw [D_cons]
    intro hm
    rcases List.mem_append.mp hm with hm | hm
    · exact pic47 c h1 h2 h3 (fun e => hn (by simp [e])) hm
    · exact D_mem47 hl (fun e => hn (by simp [e])) hm
theorem D_head46 {c : Nat} {l r : List Nat} (h : c < 256 ∧ c ≠ 174 ∧ c ≠ 175) (e : pic c ++ l = 46 :: r) : c = 46 ∧ l = r := by
  by_cases hc : c = 46
  · subst hc; rw [pic_46] at e; simpa using e
  · exfalso
    have h1 := pic_ne c h.1
    have h2 := pic46 c h.1 h.2.1 h.2.2 hc
    cases hp : pic c with
    | nil => exact h1 hp
    | cons x y => rw [hp] at e h2; simp at e; exact h2 (by simp [e.1])
theorem D_dot {l : List Nat} (h : Clean l) : drawn l = [46] ↔ l = [46] := by
  constructor
  · intro e
    cases l with
    | nil => simp [drawn] at e
    | cons c l =>
      obtain ⟨hc, hl⟩ := clean_cons h
      rw [D_cons] at e
      obtain ⟨h46, e'⟩ := D_head46 hc e
      rw [h46, (D_eq_nil hl).mp e']
  · rintro rfl; decide
theorem D_dd {l : List Nat} (h : Clean l) : drawn l = dd ↔ l = dd := by
  constructor
  · intro e
    cases l with
    | nil => simp [drawn, dd] at e
    | cons c l =>
      obtain ⟨hc, hl⟩ := clean_cons h
      rw [D_cons] at e
      obtain ⟨h46, e'⟩ := D_head46 hc e
      rw [h46, (D_dot hl).mp e']; rfl
  · rintro rfl; decide
theorem map_glue (x : List Nat) : ∀ l : List (List Nat), l ≠ [] → (glue x l).map drawn = glue (drawn x) (l.map drawn)
  | [], h => absurd rfl h
  | p :: r, _ => by simp [glue, D_app]
theorem cutR_D : ∀ (l : List Nat), Clean l → cutR (drawn l) = (cutR l).map drawn
  | [], _ => by simp [drawn, cutR]
  | c :: l, h => by
    obtain ⟨⟨h1, h2, h3⟩, hl⟩ := clean_cons h
    rw [D_cons]
    by_cases hc : c = 47
    · subst hc
      rw [pic_47]
      show cutR (47 :: drawn l) = _
      show [] :: cutR (drawn l) = List.map drawn ([] :: cutR l)
      rw [cutR_D l hl]; rfl
    · rw [cutR_pre _ _ (pic47 c h1 h2 h3 hc), cutR_cons_free hc, cutR_D l hl, map_glue _ _ (cutR_ne l)]
      congr 1
      simp [drawn]
theorem Np_D {l : List Nat} (h : Clean l) : Np (drawn l) = (Np l).map drawn := by
  unfold Np
  rw [cutR_D l h, List.filter_map]
  congr 1
  apply List.filter_congr
  intro p hp
  have hcp : Clean p := clean_sub h (cutR_mem l p hp).2
  simp only [Function.comp, ne_eq, D_eq_nil hcp]
theorem head_D {l : List Nat} (h : Clean l) : (drawn l).head? = some 47 ↔ l.head? = some 47 := by
  cases l with
  | nil => simp [drawn]
  | cons c l =>
    obtain ⟨⟨h1, h2, h3⟩, hl⟩ := clean_cons h
    rw [D_cons]
    by_cases hc : c = 47
    · subst hc; simp [pic_47]
    · have q1 := pic_ne c h1
      have q2 := pic47 c h1 h2 h3 hc
      cases hp : pic c with
      | nil => exact absurd hp q1
      | cons x y => rw [hp] at q2; simp at q2 ⊢; simp [hc]; exact fun e => q2.1 e.symm
theorem last_D {l : List Nat} (h : Clean l) : (drawn l).getLast? = some 47 ↔ l.getLast? = some 47 := by
  by_cases hl : l = []
  · subst hl; simp [drawn]
  · obtain ⟨q, c, rfl⟩ : ∃ q c, l = q ++ [c] := ⟨l.dropLast, l.getLast hl, (List.dropLast_concat_getLast hl).symm⟩
    have ⟨h1, h2, h3⟩ := h c (by simp)
    have e : drawn [c] = pic c := by simp [drawn]
    rw [D_app, e]
    by_cases hc : c = 47
    · subst hc; simp [pic_47]
    · have q1 := pic_ne c h1
      have q2 := pic47 c h1 h2 h3 hc
      obtain ⟨x, y, hp⟩ : ∃ x y, pic c = x ++ [y] := ⟨(pic c).dropLast, (pic c).getLast q1, (List.dropLast_concat_getLast q1).symm⟩
      rw [hp] at q2 ⊢
      rw [← List.append_assoc]
      simp at q2 ⊢
      simp [hc]; exact fun e => q2.2 e.symm
theorem lead_D : ∀ (l : List Nat), Clean l → lead (drawn l) = lead l
  | [], _ => rfl
  | c :: l, h => by
    by_cases hc : c = 47
    · subst hc
      rw [D_cons, pic_47]
      have := lead_D l (clean_cons h).2
      simp [lead] at this ⊢; exact this
    · rw [lead_zero (b := c :: l) (by simp [hc]), lead_zero]
      rw [head_D h]; simp [hc]
theorem joinStep_D {a b : List Nat} (ha : Clean a) (hb : Clean b) : joinStep (drawn a) (drawn b) = drawn (joinStep a b) := by
  unfold joinStep
  simp only [head_D hb, D_eq_nil ha, last_D ha]
  split
  · rfl
  · split
    · rw [D_app]
    · rw [D_app, D_cons, pic_47]; rfl
theorem joinStep_clean {a b : List Nat} (ha : Clean a) (hb : Clean b) : Clean (joinStep a b) := by
  unfold joinStep
  split
  · exact hb
  · split
    · exact clean_app ha hb
    · refine clean_app ha fun c hc => ?_
      rcases List.mem_cons.mp hc with rfl | hc
      · omega
      · exact hb c hc
theorem joinFold_D : ∀ (ps : List (List Nat)) (a : List Nat), Clean a → (∀ p ∈ ps, Clean p) → (ps.map drawn).foldl joinStep (drawn a) = drawn (ps.foldl joinStep a) ∧ Clean (ps.foldl joinStep a)
  | [], _, ha, _ => ⟨rfl, ha⟩
  | p :: ps, a, ha, h => by
    have hp := h p (by simp)
    have := joinFold_D ps (joinStep a p) (joinStep_clean ha hp) (fun q hq => h q (by simp [hq]))
    rw [List.map_cons, List.foldl_cons, joinStep_D ha hp]
    exact this
theorem joinP_D (ps : List (List Nat)) (h : ∀ p ∈ ps, Clean p) : joinP (ps.map drawn) = drawn (joinP ps) ∧ Clean (joinP ps) := by
  cases ps with
  | nil => exact ⟨rfl, fun _ hc => by simp [joinP] at hc⟩
  | cons a ps => exact joinFold_D ps a (h a (by simp)) (fun q hq => h q (by simp [hq]))
theorem debt_D : ∀ (cs : List (List Nat)), (∀ p ∈ cs, Clean p) → debtF (cs.map drawn) = ((debtF cs).1, (debtF cs).2.map drawn)
  | [], _ => rfl
  | c :: cs, h => by
    have hc := h c (by simp)
    have ih := debt_D cs (fun q hq => h q (by simp [hq]))
    show debtStep (drawn c) (debtF (cs.map drawn)) = ((debtStep c (debtF cs)).1, (debtStep c (debtF cs)).2.map drawn)
    rw [ih]
    unfold debtStep
    simp only [D_dd hc, D_eq_nil hc, D_dot hc, ne_eq]
    split
    · rfl
    · split
      · split
        · rfl
        · rfl
      · rfl
theorem D_jn : ∀ (ls : List (List Nat)), drawn (jn [47] ls) = jn [47] (ls.map drawn)
  | [] => rfl
  | [x] => rfl
  | x :: y :: r => by
    show drawn (x ++ [47] ++ jn [47] (y :: r)) = _
    rw [D_app, D_app, D_jn (y :: r)]; rfl
theorem D_stk (ab : Bool) (k : Nat) (ns : List (List Nat)) : (stk ab k ns).map drawn = stk ab k (ns.map drawn) := by
  unfold stk
  cases ab with
  | true => simp
  | false =>
    have : drawn dd = dd := by decide
    simp [List.map_replicate, this]
theorem rootOf_cases (n : Nat) : rootOf n = [] ∨ rootOf n = [47] ∨ rootOf n = [47, 47] := by
  unfold rootOf
  have : min n 3 = 0 ∨ min n 3 = 1 ∨ min n 3 = 2 ∨ min n 3 = 3 := by omega
  rcases this with e | e | e | e <;> rw [e] <;> simp
theorem D_root (n : Nat) : drawn (rootOf n) = rootOf n := by
  rcases rootOf_cases n with e | e | e <;> rw [e] <;> decide
theorem D_orDot {l : List Nat} (h : Clean l) : orDot (drawn l) = drawn (orDot l) := by
  unfold orDot
  simp only [D_eq_nil h]
  split
  · decide
  · rfl
theorem comps_D {l : List Nat} (h : Clean l) : compsOf (drawn l) = (compsOf l).map drawn := by
  unfold compsOf
  rw [lead_D l h, Np_D h, debt_D _ (fun p hp => clean_sub h (Np_mem hp).2.2), D_stk]
theorem debt_mem : ∀ (cs : List (List Nat)), ∀ p ∈ (debtF cs).2, p ∈ cs
  | [], p, hp => by simp [debtF] at hp
  | c :: cs, p, hp => by
    have ih := debt_mem cs p
    have e : debtF (c :: cs) = debtStep c (debtF cs) := rfl
    rw [e] at hp
    unfold debtStep at hp
    split at hp
    · exact List.mem_cons_of_mem _ (ih hp)
    · split at hp
      · split at hp
        · exact List.mem_cons_of_mem _ (ih hp)
        · rcases List.mem_cons.mp hp with rfl | hp
          · simp
          · exact List.mem_cons_of_mem _ (ih hp)
      · exact List.mem_cons_of_mem _ (ih hp)
theorem comps_mem {l p : List Nat} (hp : p ∈ compsOf l) : p ≠ [] ∧ 47 ∉ p ∧ (Clean l → Clean p) := by
  unfold compsOf stk at hp
  rcases List.mem_append.mp hp with hp | hp
  · have : p = dd := by
      split at hp
      · simp at hp
      · exact List.eq_of_mem_replicate hp
    subst this
    exact ⟨by simp [dd], by decide, fun _ c hc => by simp [dd] at hc; omega⟩
  · have := Np_mem (debt_mem _ _ hp)
    exact ⟨this.1, this.2.1, fun h => clean_sub h this.2.2⟩
theorem jn_clean : ∀ (ls : List (List Nat)), (∀ p ∈ ls, Clean p) → Clean (jn [47] ls)
  | [], _ => fun _ hc => by simp [jn] at hc
  | [x], h => h x (by simp)
  | x :: y :: r, h => by
    have ih := jn_clean (y :: r) (fun p hp => h p (by simp only [List.mem_cons] at hp ⊢; exact .inr hp))
    exact clean_app (clean_app (h x (by simp)) (fun c hc => by simp at hc; omega)) ih
theorem root_clean (n : Nat) : Clean (rootOf n) := by
  intro c hc
  rcases rootOf_cases n with e | e | e <;> rw [e] at hc <;> simp at hc <;> omega
theorem pre_clean {l : List Nat} (h : Clean l) : Clean (rootOf (lead l) ++ jn [47] (compsOf l)) := clean_app (root_clean _) (jn_clean _ fun _ hp => (comps_mem hp).2.2 h)
theorem normP_D {l : List Nat} (h : Clean l) : normP (drawn l) = drawn (normP l) := by
  rw [normP_eq, normP_eq, lead_D l h, comps_D h, ← D_jn]
  conv => lhs; arg 1; arg 1; rw [← D_root]
  rw [← D_app, D_orDot (pre_clean h)]
theorem meant_app (a b : List Nat) : meant (a ++ b) = meant a ++ meant b := by simp [meant]
theorem pic_meant1 : ∀ n < 256, drawn (meant1 n) = pic n ∧ (∀ c ∈ meant1 n, c < 256 ∧ c ≠ 174 ∧ c ≠ 175) := by decide +kernel
theorem D_meant : ∀ (l : List Nat), B256 l → drawn (meant l) = drawn l ∧ Clean (meant l)
  | [], _ => ⟨rfl, fun _ hc => by simp [meant] at hc⟩
  | c :: l, h => by
    have ih := D_meant l (fun x hx => h x (by simp [hx]))
    have hc := pic_meant1 c (h c (by simp))
    have e : meant (c :: l) = meant1 c ++ meant l := by simp [meant]
    rw [e, D_app, ih.1, hc.1, D_cons]
    exact ⟨rfl, clean_app hc.2 ih.2⟩
/-- the first part of the law -/
theorem law_norm (octets : List (List Nat)) (h : ∀ p ∈ octets, Clean p) (h0 : octets ≠ []) :
    normP (joinP (octets.map drawn)) = orDot (rootOf (lead (octets.getD (firstP octets) [])) ++ jn [47] ((stk (decide (lead (octets.getD (firstP octets) []) ≠ 0)) (debtF ((octets.drop (firstP octets)).flatMap cut47)).1 (debtF ((octets.drop (firstP octets)).flatMap cut47)).2).map drawn)) ∧
    normP (joinP octets) = orDot (rootOf (lead (octets.getD (firstP octets) [])) ++ jn [47] (stk (decide (lead (octets.getD (firstP octets) []) ≠ 0)) (debtF ((octets.drop (firstP octets)).flatMap cut47)).1 (debtF ((octets.drop (firstP octets)).flatMap cut47)).2)) ∧
    (stk (decide (lead (octets.getD (firstP octets) []) ≠ 0)) (debtF ((octets.drop (firstP octets)).flatMap cut47)).1 (debtF ((octets.drop (firstP octets)).flatMap cut47)).2) = compsOf (joinP octets) ∧ Clean (joinP octets) := by
  have hj := joinP_D octets h
  have hc := join_chars octets.length octets rfl h0
  have e : debtF ((octets.drop (firstP octets)).flatMap cut47) = debtF (Np (joinP octets)) := by
    rw [debt_filter, hc.1, List.filter_flatMap]
    congr 2
    funext p
    rw [cut47_eq]; rfl
  have e2 : (stk (decide (lead (octets.getD (firstP octets) []) ≠ 0)) (debtF ((octets.drop (firstP octets)).flatMap cut47)).1 (debtF ((octets.drop (firstP octets)).flatMap cut47)).2) = compsOf (joinP octets) := by
    rw [e, ← hc.2]; rfl
  rw [e2, ← hc.2, hj.1]
  refine ⟨?_, normP_eq _, rfl, hj.2⟩
  rw [normP_eq, lead_D _ hj.2, comps_D hj.2]

/-! the plain law, 4: split, parted, climbed -/
def lastIx (l : List Nat) : Nat := maxL (((List.range l.length).filter fun i => l[i]? = some 47).map (· + 1))
def innerIx (l : List Nat) (n : Nat) : Nat := maxL (((List.range n).filter fun i => l[i]? ≠ some 47).map (· + 1))
theorem filt_snoc (l : List Nat) (c : Nat) (P : Option Nat → Bool) : (List.range (l ++ [c]).length).filter (fun i => P ((l ++ [c])[i]?)) = (List.range l.length).filter (fun i => P l[i]?) ++ (if P (some c) = true then [l.length] else []) := by
  rw [List.length_append, List.length_singleton, List.range_succ, List.filter_append]
  congr 1
  · apply List.filter_congr
    intro i hi
    have := List.mem_range.mp hi
    simp [List.getElem?_append_left this]
  · cases hp : P (some c) <;> simp [hp]
theorem lastIx_snoc (l : List Nat) (c : Nat) : lastIx (l ++ [c]) = if c = 47 then l.length + 1 else lastIx l := by
  unfold lastIx
  rw [filt_snoc l c (fun o => decide (o = some 47))]
  by_cases hc : c = 47
  · rw [if_pos hc, if_pos (by simp [hc]), List.map_append, List.map_singleton, maxL_snoc]
    have : maxL (((List.range l.length).filter fun i => l[i]? = some 47).map (· + 1)) ≤ l.length + 1 := maxL_le fun x hx => by
      obtain ⟨y, hy, rfl⟩ := List.mem_map.mp hx
      have := List.mem_range.mp (List.mem_filter.mp hy).1
      omega
    omega
  · rw [if_neg hc, if_neg (by simp [hc])]; simp
theorem innerIx_snoc (l : List Nat) (c : Nat) : innerIx (l ++ [c]) (l ++ [c]).length = if c = 47 then innerIx l l.length else l.length + 1 := by
  unfold innerIx
  rw [filt_snoc l c (fun o => decide (o ≠ some 47))]
  by_cases hc : c = 47
  · rw [if_pos hc, if_neg (by simp [hc])]; simp
  · rw [if_neg hc, if_pos (by simp [hc]), List.map_append, List.map_singleton, maxL_snoc]
    have : maxL (((List.range l.length).filter fun i => l[i]? ≠ some 47).map (· + 1)) ≤ l.length + 1 := maxL_le fun x hx => by
      obtain ⟨y, hy, rfl⟩ := List.mem_map.mp hx
      have := List.mem_range.mp (List.mem_filter.mp hy).1
      omega
    omega
theorem innerIx_take (l : List Nat) (n : Nat) (h : n ≤ l.length) : innerIx l n = innerIx (l.take n) (l.take n).length := by
  unfold innerIx
  have hl : (l.take n).length = n := by simp; omega
  rw [hl]
  congr 2
  apply List.filter_congr
  intro i hi
  have := List.mem_range.mp hi
  simp [List.getElem?_take, this]
theorem snoc_ind {P : List Nat → Prop} (h0 : P []) (hs : ∀ l c, P l → P (l ++ [c])) (l : List Nat) : P l := by
  have : ∀ n (l : List Nat), l.length = n → P l := by
    intro n
    induction n with
    | zero => intro l hl; rw [List.length_eq_zero_iff.mp hl]; exact h0
    | succ n ih =>
      intro l hl
      have hne : l ≠ [] := by intro e; subst e; simp at hl
      rw [← List.dropLast_concat_getLast hne]
      exact hs _ _ (ih _ (by simp; omega))
  exact this _ l rfl
theorem lastIx_app (a b : List Nat) (h : 47 ∉ b) : lastIx (a ++ b) = lastIx a := by
  revert h
  refine snoc_ind (P := fun b => 47 ∉ b → lastIx (a ++ b) = lastIx a) (by simp) (fun l c ih h => ?_) b
  have hc : ¬ c = 47 := fun e => h (by simp [e])
  rw [← List.append_assoc, lastIx_snoc, if_neg hc, ih (fun e => h (by simp [e]))]
def EndsHead (h : List Nat) : Prop := h = [] ∨ ∃ a, h = a ++ [47]
theorem lastIx_of {h t : List Nat} (hh : EndsHead h) (ht : 47 ∉ t) : lastIx (h ++ t) = h.length := by
  rw [lastIx_app _ _ ht]
  rcases hh with rfl | ⟨a, rfl⟩
  · rfl
  · rw [lastIx_snoc]; simp
theorem last_split (l : List Nat) : ∃ h t, l = h ++ t ∧ EndsHead h ∧ 47 ∉ t := by
  refine snoc_ind (P := fun l => ∃ h t, l = h ++ t ∧ EndsHead h ∧ 47 ∉ t) ⟨[], [], rfl, .inl rfl, by simp⟩ (fun l c ih => ?_) l
  obtain ⟨h, t, rfl, hh, ht⟩ := ih
  by_cases hc : c = 47
  · exact ⟨h ++ t ++ [c], [], by simp, .inr ⟨h ++ t, by rw [hc]⟩, by simp⟩
  · exact ⟨h, t ++ [c], by simp, hh, by simp; exact ⟨ht, fun e => hc e.symm⟩⟩
theorem lastIx_le (l : List Nat) : lastIx l ≤ l.length := by
  obtain ⟨h, t, rfl, hh, ht⟩ := last_split l
  rw [lastIx_of hh ht]; simp
def rstripP (h : List Nat) : List Nat := (h.reverse.dropWhile fun c => c == 47).reverse
theorem rstripP_snoc (l : List Nat) (c : Nat) : rstripP (l ++ [c]) = if c = 47 then rstripP l else l ++ [c] := by
  unfold rstripP
  rw [List.reverse_append]
  by_cases hc : c = 47 <;> simp [hc]
theorem rstripP_take (h : List Nat) : rstripP h = h.take (innerIx h h.length) ∧ innerIx h h.length ≤ h.length := by
  refine snoc_ind (P := fun h => rstripP h = h.take (innerIx h h.length) ∧ innerIx h h.length ≤ h.length) ⟨by simp [rstripP], by simp [innerIx, maxL]⟩ (fun l c ih => ?_) h
  rw [rstripP_snoc, innerIx_snoc]
  split
  · refine ⟨?_, by simp; omega⟩
    rw [List.take_append_of_le_length ih.2]; exact ih.1
  · refine ⟨?_, by simp⟩
    rw [List.take_of_length_le (by simp)]
theorem rstripP_split (h : List Nat) : ∃ k, h = rstripP h ++ List.replicate k 47 ∧ ¬ (rstripP h).getLast? = some 47 := by
  refine snoc_ind (P := fun h => ∃ k, h = rstripP h ++ List.replicate k 47 ∧ ¬ (rstripP h).getLast? = some 47) ⟨0, by simp [rstripP], by simp [rstripP]⟩ (fun l c ih => ?_) h
  obtain ⟨k, e, hk⟩ := ih
  rw [rstripP_snoc]
  by_cases hc : c = 47
  · rw [if_pos hc]
    refine ⟨k + 1, ?_, hk⟩
    rw [List.replicate_succ', ← List.append_assoc, ← e, hc]
  · rw [if_neg hc]
    exact ⟨0, by simp, by simp [hc]⟩
theorem rstripP_of (r : List Nat) (hr : ¬ r.getLast? = some 47) : ∀ k, rstripP (r ++ List.replicate k 47) = r
  | 0 => by
    simp only [List.replicate_zero, List.append_nil]
    by_cases h : r = []
    · subst h; rfl
    · obtain ⟨q, x, rfl⟩ : ∃ q x, r = q ++ [x] := ⟨r.dropLast, r.getLast h, (List.dropLast_concat_getLast h).symm⟩
      rw [rstripP_snoc, if_neg]; simpa using hr
  | k + 1 => by rw [List.replicate_succ', ← List.append_assoc, rstripP_snoc, if_pos rfl]; exact rstripP_of r hr k
theorem rstrip_nil (h : List Nat) : rstripP h = [] ↔ h = List.replicate h.length 47 := by
  constructor
  · intro e
    obtain ⟨k, e1, _⟩ := rstripP_split h
    rw [e] at e1
    have : h.length = k := by rw [e1]; simp
    rw [this]; simpa using e1
  · intro e
    have := rstripP_of [] (by simp) h.length
    rw [List.nil_append, ← e] at this; exact this
def headOf (h : List Nat) : List Nat := if h = List.replicate h.length 47 then h else rstripP h
def splitP (l : List Nat) : List Nat × List Nat := (headOf (l.take (lastIx l)), l.drop (lastIx l))
def partedP (l : List Nat) : List Nat × List Nat := (l.take (if innerIx l (lastIx l) = 0 then lastIx l else innerIx l (lastIx l)), l.drop (lastIx l))
theorem parted_split (l : List Nat) : partedP l = splitP l := by
  unfold partedP splitP headOf
  rw [innerIx_take l _ (lastIx_le l)]
  generalize hh : l.take (lastIx l) = h
  have hr := rstripP_take h
  have hlen : h.length = lastIx l := by rw [← hh, List.length_take]; exact Nat.min_eq_left (lastIx_le l)
  congr 1
  by_cases h0 : innerIx h h.length = 0
  · rw [if_pos h0, hh, if_pos]
    rw [← rstrip_nil, hr.1, h0]; rfl
  · rw [if_neg h0]
    have h1 : ¬ rstripP h = [] := by
      rw [hr.1]
      intro e
      have := congrArg List.length e
      simp at this
      rcases this with e | e
      · exact h0 e
      · exact h0 (by rw [e]; rfl)
    rw [if_neg (fun e => h1 ((rstrip_nil h).mpr e)), hr.1, ← hh, List.take_take]
    congr 1
    rw [hh]; omega
theorem split_of {h t : List Nat} (hh : EndsHead h) (ht : 47 ∉ t) : splitP (h ++ t) = (headOf h, t) := by
  unfold splitP
  rw [lastIx_of hh ht]; simp
theorem D_slashes : ∀ k, drawn (List.replicate k 47) = List.replicate k 47
  | 0 => rfl
  | k + 1 => by rw [List.replicate_succ, D_cons, D_slashes k, pic_47]; rfl
theorem headOf_D {h : List Nat} (hc : Clean h) : headOf (drawn h) = drawn (headOf h) := by
  obtain ⟨k, e, hl⟩ := rstripP_split h
  have hr : Clean (rstripP h) := fun c hc' => hc c (by rw [e]; exact List.mem_append_left _ hc')
  have e2 : rstripP (drawn h) = drawn (rstripP h) := by
    conv => lhs; rw [e, D_app, D_slashes]
    exact rstripP_of _ (fun q => hl ((last_D hr).mp q)) k
  have e3 : (drawn h = List.replicate (drawn h).length 47) ↔ (h = List.replicate h.length 47) := by
    rw [← rstrip_nil, ← rstrip_nil, e2, D_eq_nil hr]
  unfold headOf
  by_cases q : h = List.replicate h.length 47
  · rw [if_pos (e3.mpr q), if_pos q]
  · rw [if_neg (fun x => q (e3.mp x)), if_neg q, e2]
theorem split_D {l : List Nat} (hc : Clean l) : splitP (drawn l) = (drawn (splitP l).1, drawn (splitP l).2) := by
  obtain ⟨h, t, rfl, hh, ht⟩ := last_split l
  have ch : Clean h := clean_sub hc (fun c q => List.mem_append_left _ q)
  have ct : Clean t := clean_sub hc (fun c q => List.mem_append_right _ q)
  rw [split_of hh ht, D_app, split_of _ (D_mem47 ct ht), headOf_D ch]
  rcases hh with rfl | ⟨a, rfl⟩
  · exact .inl rfl
  · exact .inr ⟨drawn a, by rw [D_app]; rfl⟩
theorem rstrip_len (h : List Nat) : (rstripP h).length ≤ h.length := by
  obtain ⟨k, e, _⟩ := rstripP_split h
  conv => rhs; rw [e]
  simp
theorem headOf_len (h : List Nat) : (headOf h).length ≤ h.length := by
  unfold headOf; split
  · exact Nat.le_refl _
  · exact rstrip_len h
theorem split_len (l : List Nat) : (splitP l).1.length ≤ l.length ∧ (splitP l).2.length ≤ l.length := by
  refine ⟨?_, by simp [splitP]⟩
  refine Nat.le_trans (headOf_len _) ?_
  simp; exact Nat.min_le_right _ _
theorem rstrip_mem {h : List Nat} {c : Nat} (hc : c ∈ rstripP h) : c ∈ h := by
  obtain ⟨k, e, _⟩ := rstripP_split h
  rw [e]; exact List.mem_append_left _ hc
theorem split_mem (l : List Nat) : (∀ c ∈ (splitP l).1, c ∈ l) ∧ (∀ c ∈ (splitP l).2, c ∈ l) := by
  refine ⟨fun c hc => ?_, fun c hc => List.mem_of_mem_drop hc⟩
  have : c ∈ l.take (lastIx l) := by
    simp only [splitP, headOf] at hc
    split at hc
    · exact hc
    · exact rstrip_mem hc
  exact List.mem_of_mem_take this
/-- climbing -/
def climbP : Nat → List Nat → List Nat → List (List Nat) → Option (List Nat × List (List Nat))
  | 0, _, _, _ => none
  | n + 1, place, name, acc => if name = [] then some (place, acc) else climbP n (splitP place).1 (splitP place).2 (acc ++ [name])
theorem jn_snoc : ∀ (cs : List (List Nat)) (c : List Nat), cs ≠ [] → jn [47] (cs ++ [c]) = jn [47] cs ++ [47] ++ c
  | [], _, h => absurd rfl h
  | [x], c, _ => rfl
  | x :: y :: r, c, _ => by
    have ih := jn_snoc (y :: r) c (by simp)
    show x ++ [47] ++ jn [47] ((y :: r) ++ [c]) = x ++ [47] ++ jn [47] (y :: r) ++ [47] ++ c
    rw [ih]; simp
def Good (cs : List (List Nat)) : Prop := ∀ p ∈ cs, p ≠ [] ∧ 47 ∉ p
theorem last_app (a : List Nat) {b : List Nat} (h : b ≠ []) : (a ++ b).getLast? = b.getLast? := by
  obtain ⟨q, x, rfl⟩ : ∃ q x, b = q ++ [x] := ⟨b.dropLast, b.getLast h, (List.dropLast_concat_getLast h).symm⟩
  rw [← List.append_assoc]; simp
theorem jn_last : ∀ (cs : List (List Nat)), Good cs → cs ≠ [] → jn [47] cs ≠ [] ∧ ¬ (jn [47] cs).getLast? = some 47
  | [], _, h => absurd rfl h
  | [x], h, _ => by
    have := h x (by simp)
    refine ⟨this.1, fun e => this.2 ?_⟩
    exact List.mem_of_getLast? e
  | x :: y :: r, h, _ => by
    have ih := jn_last (y :: r) (fun p hp => h p (by simp only [List.mem_cons] at hp ⊢; exact .inr hp)) (by simp)
    have e : jn [47] (x :: y :: r) = x ++ [47] ++ jn [47] (y :: r) := rfl
    rw [e]
    refine ⟨by simp, ?_⟩
    rw [last_app _ ih.1]; exact ih.2
theorem root_ends (n : Nat) : EndsHead (rootOf n) ∧ headOf (rootOf n) = rootOf n := by
  rcases rootOf_cases n with e | e | e <;> rw [e]
  · exact ⟨.inl rfl, by decide⟩
  · exact ⟨.inr ⟨[], rfl⟩, by decide⟩
  · exact ⟨.inr ⟨[47], rfl⟩, by decide⟩
theorem split_climb (n : Nat) (cs : List (List Nat)) (c : List Nat) (h : Good (cs ++ [c])) : splitP (rootOf n ++ jn [47] (cs ++ [c])) = (rootOf n ++ jn [47] cs, c) := by
  have hc := h c (by simp)
  by_cases h0 : cs = []
  · subst h0
    have e : rootOf n ++ jn [47] ([] ++ [c]) = rootOf n ++ c := rfl
    rw [e, split_of (root_ends n).1 hc.2, (root_ends n).2]
    simp [jn]
  · have hl := jn_last cs (fun p hp => h p (by simp [hp])) h0
    rw [jn_snoc _ _ h0]
    have e : rootOf n ++ (jn [47] cs ++ [47] ++ c) = ((rootOf n ++ jn [47] cs) ++ [47]) ++ c := by simp
    rw [e, split_of (.inr ⟨_, rfl⟩) hc.2]
    congr 1
    have hl2 : ¬ (rootOf n ++ jn [47] cs).getLast? = some 47 := by rw [last_app _ hl.1]; exact hl.2
    have e2 : rstripP ((rootOf n ++ jn [47] cs) ++ [47]) = rootOf n ++ jn [47] cs := rstripP_of _ hl2 1
    unfold headOf
    rw [if_neg, e2]
    intro q
    rw [← rstrip_nil, e2] at q
    have := congrArg List.length q
    simp at this
    exact hl.1 this.2
theorem split_root (n : Nat) : splitP (rootOf n) = (rootOf n, []) := by
  have := split_of (root_ends n).1 (t := []) (by simp)
  rw [List.append_nil, (root_ends n).2] at this; exact this
theorem climb_all (n : Nat) : ∀ (k : Nat) (cs acc : List (List Nat)), cs.length = k → Good cs → climbP (k + 1) (splitP (rootOf n ++ jn [47] cs)).1 (splitP (rootOf n ++ jn [47] cs)).2 acc = some (rootOf n, acc ++ cs.reverse)
  | 0, cs, acc, hk, _ => by
    have : cs = [] := List.length_eq_zero_iff.mp hk
    subst this
    have e : rootOf n ++ jn [47] [] = rootOf n := by simp [jn]
    rw [e, split_root]; simp [climbP]
  | k + 1, cs, acc, hk, h => by
    have hne : cs ≠ [] := by intro e; subst e; simp at hk
    obtain ⟨ds, c, rfl⟩ : ∃ ds c, cs = ds ++ [c] := ⟨cs.dropLast, cs.getLast hne, (List.dropLast_concat_getLast hne).symm⟩
    rw [split_climb n ds c h]
    show (if c = [] then _ else _) = _
    rw [if_neg (h c (by simp)).1]
    dsimp only
    rw [climb_all n k ds (acc ++ [c]) (by simp at hk; exact hk) (fun p hp => h p (by simp [hp]))]
    simp
/-- the second part of the law -/
theorem law_climb {l : List Nat} : ∃ k r names, k ≤ (compsOf l).length + 2 ∧ climbP k (splitP (normP l)).1 (splitP (normP l)).2 [] = some (r, names) ∧ r = rootOf (lead l) ∧ names.reverse = (if compsOf l = [] then (if rootOf (lead l) = [] then [[46]] else []) else compsOf l) := by
  have hg : Good (compsOf l) := fun p hp => ⟨(comps_mem hp).1, (comps_mem hp).2.1⟩
  rw [normP_eq]
  by_cases h0 : rootOf (lead l) ++ jn [47] (compsOf l) = []
  · have hr : rootOf (lead l) = [] := (List.append_eq_nil_iff.mp h0).1
    have hj : jn [47] (compsOf l) = [] := (List.append_eq_nil_iff.mp h0).2
    have hc : compsOf l = [] := by
      cases hcs : compsOf l with
      | nil => rfl
      | cons p r => exact absurd hj (jn_last _ hg (by rw [hcs]; simp)).1
    have e : orDot (rootOf (lead l) ++ jn [47] (compsOf l)) = rootOf 0 ++ jn [47] [[46]] := by rw [h0]; rfl
    rw [e]
    refine ⟨2, _, _, by omega, climb_all 0 1 [[46]] [] rfl ?_, ?_, ?_⟩
    · intro p hp; simp at hp; subst hp; simp
    · rw [hr]; rfl
    · rw [hc, hr]; rfl
  · have e : orDot (rootOf (lead l) ++ jn [47] (compsOf l)) = rootOf (lead l) ++ jn [47] (compsOf l) := by unfold orDot; rw [if_neg h0]
    rw [e]
    refine ⟨_, _, _, by omega, climb_all (lead l) _ (compsOf l) [] rfl hg, rfl, ?_⟩
    by_cases hc : compsOf l = []
    · rw [hc] at h0 ⊢
      have : ¬ rootOf (lead l) = [] := by simpa [jn] using h0
      simp [this]
    · simp [hc]

namespace BM
section
open Builtin Builtin.Bytes
variable {prog : Program} {w : World} {A : Around} {E : Value → Shared → Prop} {s : Shared} {b c : Array UInt8} {t u : Tok}
theorem take_eq {id : String} {x : Array UInt8} {t : Tok} : takeBufferQuiet? id (.bytes x t) 0 = pure (some (x, none)) := by
  unfold takeBufferQuiet? takeBuffer?
  rw [KBy.special_eq KBy.look_buffer]
  simp only [pure_bind]
  rw [KBy.own_buffer]
  simp only [pure_bind]
  rw [show buffer? id (.bytes x t) (full := (0 : Int) == fullReadOnly) = pure (some x) from KBy.buffer_eq]
  rfl
theorem arr_one {M : Model} {Q : PySem.Fin → Shared → Prop} : ∀ (l : List Value) (f : Value → Sem PySem.Fin) (g : Array Value → Sem PySem.Fin) (_ : ∀ x, l = [x] → wpAny M A (f x) Q E s) (_ : wpAny M A (g l.toArray) Q E s),
    wpAny M A (match l.toArray with | #[x] => f x | y => g y) Q E s
  | [], f, g, _, hg => hg
  | [x], f, g, hf, _ => hf x rfl
  | x :: y :: r, f, g, _, hg => hg
theorem jn_cons' : ∀ (x : List Nat) (r : List (List Nat)), jn [47] (x :: r) = x ++ r.flatMap (fun p => 47 :: p)
  | x, [] => by simp [jn]
  | x, y :: r => by
    show x ++ [47] ++ jn [47] (y :: r) = _
    rw [jn_cons' y r]; simp
theorem jn_length : ∀ (ls : List (List Nat)), (jn [47] ls).length ≤ (ls.map (·.length)).sum + ls.length
  | [] => by simp [jn]
  | [x] => by simp [jn]
  | x :: y :: r => by
    have ih := jn_length (y :: r)
    show (x ++ [47] ++ jn [47] (y :: r)).length ≤ _
    simp only [List.length_append, List.map_cons, List.sum_cons, List.length_cons, List.length_nil] at ih ⊢
    omega
theorem joinedFrom : ∀ (ls : List (List Nat)) (k : Nat) (acc : Array UInt8), (((ls.map bA).zipIdx (k + 1)).foldl (fun out (x : Array UInt8 × Nat) => (if x.2 > 0 then out ++ #[47] else out) ++ x.1) acc) = acc ++ bA (ls.flatMap fun p => 47 :: p)
  | [], k, acc => by simp [bA]
  | x :: r, k, acc => by
    simp only [List.map_cons, List.zipIdx_cons, List.foldl_cons]
    rw [joinedFrom r (k + 1)]
    rw [if_pos (by omega), Array.append_assoc, Array.append_assoc]
    congr 1
    simp [bA]
theorem joined_eq : ∀ (ls : List (List Nat)), joined #[47] (ls.map bA) = bA (jn [47] ls)
  | [] => by simp [joined, jn, bA]
  | x :: r => by
    unfold joined
    simp only [List.map_cons, List.zipIdx_cons, List.foldl_cons]
    have := joinedFrom r 0 ((if 0 > 0 then (#[] : Array UInt8) ++ #[47] else #[]) ++ bA x)
    rw [jn_cons']
    refine Eq.trans this ?_
    simp [bA]
theorem foldSize : ∀ (ls : List (List Nat)) (n : Nat), (ls.map bA).foldl (fun a b => a + b.size) n = n + (ls.map (·.length)).sum
  | [], n => by simp
  | x :: r, n => by
    rw [List.map_cons, List.foldl_cons, foldSize r, bA_size, List.map_cons, List.sum_cons]; omega
theorem join_call {D : Addr} {ys : List Value} {k : Nat} {pc : List (List Nat)} {Q : Value → Shared → Prop} (hD : s.heap.get? D = some (LO ys k)) (hpp : Paired (fun v a => ∃ t, v = Value.bytes (bA a) t) ys pc) 
    (hsz : (pc.map (·.length)).sum + pc.length ≤ 1000000) (h : ∀ t' k, Q (.bytes (bA (jn [47] pc)) t') { s with toks := k }) :
    wpAny (model prog w) A (call (.builtin "bytes.join") [.bytes #[47] u, .ref D]) Q E s := by
  have hT : s.TypeIs (.ref D) "list" := ⟨_, hD, rfl⟩
  obtain ⟨ls, hls⟩ : ∃ ls, ls = pc.map bA := ⟨_, rfl⟩
  have hp : Paired (fun v a => ∃ t, v = Value.bytes a t) ys ls := by rw [hls]; exact paired_map hpp
  refine wpAny_call_entry slot_join (typeIs_bytes s _ u) entry_join ?_ (args_join _ _)
  show wpAny _ _ (selfAndOne _ ⟨[.bytes #[47] u, .ref D], []⟩ >>= fun r => _) _ _ s
  refine wpAny_bind (wpAny_of_eq (a := (.bytes #[47] u, .ref D)) rfl ?_)
  dsimp only
  show wpAny _ _ (joinItems (.ref D) >>= fun r => _) _ _ s
  refine wpAny_bind ?_
  unfold joinItems
  refine wpAny_bind (wpAny_typeOf hT ?_)
  refine wpAny_pure ?_
  refine wpAny_bind (wpAny_seqItems hD rfl ?_)
  dsimp only
  refine wpAny_ite ?_
  rw [if_pos (by rfl)]
  have hlen : ys.length = ls.length := hp.length
  have fin : ∀ (parts : Array (Array UInt8)) (taken : List (Value × Option Value)), parts = ls.toArray → (∀ p ∈ taken, p.2 = none) →
      wpAny (model prog w) A.in1 (do
        let sep ← payload (.bytes #[47] u)
        if tooLong (parts.foldl (· + ·.size) (sep.size * (parts.size - 1))) then unsupported s!"{(toString Kind.bytes.name ++ toString ".join")}:memory"
        let result ← Kind.bytes.new (joined sep parts.toList)
        holding (result :: taken.flatMap fun (y, u) => y :: u.toList) point
        joinLetGo taken [result]
        ret result) (fun fin s' => ∃ v, fin = .done (.ret v) ∧ Q v s') E s := by
    rintro parts taken rfl ht
    refine wpAny_bind (wpAny_of_eq (a := #[47]) rfl ?_)
    dsimp only
    refine wpAny_ite ?_
    have hsum : ls.toArray.foldl (fun a b => a + b.size) ((#[47] : Array UInt8).size * (ls.toArray.size - 1)) ≤ 2000000 := by
      rw [← Array.foldl_toList, hls]
      show ((pc.map bA).foldl (fun a b => a + b.size) _) ≤ _
      rw [foldSize]; simp; omega
    rw [if_neg (by rw [KBy.tooLong_not (Nat.le_trans hsum (by omega))]; exact Bool.false_ne_true)]
    have hj : joined #[47] ls.toArray.toList = bA (jn [47] pc) := by rw [hls]; exact joined_eq pc
    rw [hj]
    refine wpAny_bind (wpAny_mkBytes ?_ (by rw [bA_size, sizeLine_eq]; have := jn_length pc; omega))
    refine wpAny_bind (wpAny_holding (wpAny_point ?_))
    have lets : ∀ (tk : List (Value × Option Value)) (keep : List Value) (s' : Shared) (Q' : Unit → Shared → Prop), (∀ p ∈ tk, p.2 = none) → Q' () s' → wpAny (model prog w) A.in1 (joinLetGo tk keep) Q' E s' := by
      intro tk
      induction tk with
      | nil => intro keep s' Q' _ h; exact wpAny_pure h
      | cons p tk ih =>
        intro keep s' Q' hn h
        obtain ⟨x, wv⟩ := p
        have : wv = none := hn (x, wv) (by simp)
        subst this
        unfold joinLetGo
        dsimp only
        exact wpAny_bind (wpAny_letGo (ih keep s' Q' (fun p hp => hn p (by simp [hp])) h))
    refine wpAny_bind (lets _ _ _ _ ht ?_)
    exact wpAny_pure ⟨_, rfl, h _ _⟩
  refine arr_one ys _ _ (fun x hx => ?_) ?_
  · subst hx
    cases hpp with
    | cons hx hr =>
      cases hr
      obtain ⟨t, rfl⟩ := hx
      refine wpAny_bind (wpAny_typeOf (typeIs_bytes _ _ _) ?_)
      refine wpAny_ite ?_
      rw [if_pos (by rfl)]
      refine wpAny_bind (wpAny_rule ?_)
      exact wpAny_pure ⟨_, rfl, h t s.toks⟩
  · refine wpAny_bind ?_
    rw [Std.Legacy.Range.forIn_eq_forIn_range']
    simp only [Std.Legacy.Range.size, Nat.sub_zero, Nat.add_sub_cancel, Nat.div_one, List.size_toArray]
    refine wpAny_forIn_list _
      (fun rest (st : Array (Array UInt8) × List (Value × Option Value)) s' => ∃ i, s' = s ∧ rest = List.range' i (ys.length - i) ∧ i ≤ ys.length ∧ st.1 = (ls.take i).toArray ∧ (∀ p ∈ st.2, p.1.onHeap = false ∧ p.2 = none))
      _ ?_ ?_ _ _ ⟨0, rfl, by simp, Nat.zero_le _, by simp, by simp⟩
    · rintro x rest ⟨parts, taken⟩ s' ⟨i, rfl, hr, hi, hpa, hta⟩
      have hlt : i < ys.length := by
        rcases Nat.lt_or_ge i ys.length with h | h
        · exact h
        · rw [Nat.sub_eq_zero_of_le h] at hr; simp at hr
      obtain ⟨hx, hrest⟩ : x = i ∧ rest = List.range' (i + 1) (ys.length - (i + 1)) := by
        have e : ys.length - i = (ys.length - (i + 1)) + 1 := by omega
        rw [e, List.range'_succ] at hr
        injection hr with h1 h2
        exact ⟨h1, h2⟩
      subst hx
      obtain ⟨v, hv⟩ : ∃ v, ys[x]? = some v := ⟨_, List.getElem?_eq_getElem hlt⟩
      obtain ⟨a, ha, t, rfl⟩ := paired_get hp hv
      have hg : (ys.toArray.getD x Value.none) = .bytes a t := by simp [Array.getD_eq_getD_getElem?, hv]
      refine wpAny_bind (wpAny_seqItems hD rfl ?_)
      dsimp only
      rw [hg]
      have hany : (taken.any fun x => x.fst.onHeap) = false := by
        rw [List.any_eq_false]
        intro p hp
        simp [(hta p hp).1]
      refine wpAny_ite ?_
      rw [if_neg (by simp [hany])]
      refine wpAny_bind (wpAny_holding (wpAny_of_eq take_eq ?_))
      dsimp only
      refine wpAny_bind (wpAny_seqItems hD rfl ?_)
      dsimp only
      refine wpAny_ite ?_
      rw [if_neg (by simp)]
      refine wpAny_pure ⟨x + 1, rfl, hrest, hlt, ?_, ?_⟩
      · dsimp only at hpa ⊢
        rw [hpa, List.take_add_one, ha]
        simp
      · intro p hp
        rcases List.mem_append.mp hp with hp | hp
        · exact hta p hp
        · simp at hp; subst hp; exact ⟨rfl, rfl⟩
    · rintro ⟨parts, taken⟩ s' ⟨i, rfl, hr, hi, hpa, hta⟩
      have hin : i = ys.length := by
        have := congrArg List.length hr
        simp at this; omega
      refine fin parts taken ?_ (fun p hp => (hta p hp).2)
      dsimp only at hpa
      rw [hpa, hin, hlen, List.take_length]
end
end BM

/-! rules for texts and octets alike: methods, slices -/
def cutP {α : Type} (lo hi : Option Int) (l : List α) : List α := (l.drop (lo.elim 0 (clipAt l.length))).take (hi.elim l.length (clipAt l.length) - lo.elim 0 (clipAt l.length))
theorem clip_le (n : Nat) (i : Int) : clipAt n i ≤ n := by
  have h := clipAt_cast n i
  omega
theorem cutP_len {α : Type} (lo hi : Option Int) (l : List α) : (cutP lo hi l).length ≤ l.length := by simp [cutP]; omega
theorem cutP_mem {α : Type} {lo hi : Option Int} {l : List α} {c : α} (h : c ∈ cutP lo hi l) : c ∈ l := List.mem_of_mem_drop (List.mem_of_mem_take h)
theorem cutP_to {α : Type} (n : Nat) (l : List α) : cutP none (some (n : Int)) l = l.take n := by
  simp only [cutP, Option.elim, clipAt_nat, List.drop_zero, Nat.sub_zero]
  rcases Nat.le_total n l.length with h | h
  · rw [Nat.min_eq_left h]
  · rw [Nat.min_eq_right h, List.take_of_length_le (Nat.le_refl _), List.take_of_length_le h]
theorem cutP_from {α : Type} (n : Nat) (l : List α) : cutP (some (n : Int)) none l = l.drop n := by
  simp only [cutP, Option.elim, clipAt_nat]
  rcases Nat.le_total n l.length with h | h
  · rw [Nat.min_eq_left h, List.take_of_length_le (by simp)]
  · rw [Nat.min_eq_right h, List.drop_of_length_le (Nat.le_refl _), List.drop_of_length_le h]; simp
theorem cutP_both {α : Type} (a b : Nat) (l : List α) : cutP (some (a : Int)) (some (b : Int)) l = (l.drop a).take (b - a) := by
  simp only [cutP, Option.elim, clipAt_nat]
  rcases Nat.le_total a l.length with h | h
  · rw [Nat.min_eq_left h]
    rcases Nat.le_total b l.length with h2 | h2
    · rw [Nat.min_eq_left h2]
    · rw [Nat.min_eq_right h2, List.take_of_length_le (by simp), List.take_of_length_le (by simp; omega)]
  · rw [Nat.min_eq_right h, List.drop_of_length_le (Nat.le_refl _), List.drop_of_length_le h]; simp
theorem strIdx (lo hi : Option Int) (n : Nat) : Builtin.Str.strSliceIndices lo hi 1 n = (List.range (hi.elim n (clipAt n) - lo.elim 0 (clipAt n))).map (lo.elim 0 (clipAt n) + ·) := by
  have h := sliceBounds_plain lo hi n
  have e : Builtin.Str.strSliceIndices lo hi 1 n = sliceRange (sliceBounds lo hi none n).1 (sliceBounds lo hi none n).2.1 1 := by
    cases lo <;> cases hi <;> rfl
  rw [e, h, sliceRange_one]
theorem slice_tS (lo hi : Option Int) (l : List Nat) : Txt.slice (tS l) lo hi = tS (cutP lo hi l) := by
  unfold Txt.slice
  rw [strIdx, tS_len]
  have e1 : (((List.range (hi.elim l.length (clipAt l.length) - lo.elim 0 (clipAt l.length))).map (lo.elim 0 (clipAt l.length) + ·)).filterMap ((tS l).cps[·]?)) = cutP lo hi l := by
    rw [pick_run]; simp [cutP, tS]
  rw [e1]
  by_cases h : ((1 : Int) == 1 && ((List.range (hi.elim l.length (clipAt l.length) - lo.elim 0 (clipAt l.length))).map (lo.elim 0 (clipAt l.length) + ·)).length == l.length) = true
  · rw [if_pos h]
    have h2 : hi.elim l.length (clipAt l.length) - lo.elim 0 (clipAt l.length) = l.length := by simpa using h
    have h3 : hi.elim l.length (clipAt l.length) ≤ l.length := by cases hi with | none => exact Nat.le_refl _ | some i => exact clip_le _ _
    by_cases hl : l.length = 0
    · have : l = [] := List.length_eq_zero_iff.mp hl
      subst this; simp [cutP]
    · have h4 : lo.elim 0 (clipAt l.length) = 0 := by omega
      unfold cutP
      rw [h2, h4, List.drop_zero, List.take_of_length_le (Nat.le_refl _)]
  · rw [if_neg h]; rfl
theorem picked_bA (lo hi : Option Int) (l : List Nat) : KBy.picked (bA l) lo hi = bA (cutP lo hi l) := by
  rw [KBc.picked_eq, bA_toList, bA_size]
  unfold cutP bA
  rw [List.map_take, List.map_drop]
def ixI (o : Option Nat) : Int := match o with | some i => (i : Int) | none => -1
theorem last_of {l : List Nat} {o : Option Nat} (h : (o = none ∧ 47 ∉ l) ∨ ∃ i, o = some i ∧ l[i]? = some 47 ∧ ∀ k, i < k → l[k]? ≠ some 47) :
    ixI o = (lastIx l : Int) - 1 := by
  obtain ⟨hd, t, rfl, hh, ht⟩ := last_split l
  rw [lastIx_of hh ht]
  rcases hh with rfl | ⟨a, rfl⟩
  · rcases h with ⟨rfl, _⟩ | ⟨i, rfl, h1, _⟩
    · simp [ixI]
    · exact absurd (List.mem_of_getElem? h1) (by simpa using ht)
  · rcases h with ⟨rfl, h⟩ | ⟨i, rfl, h1, h2⟩
    · exact absurd (by simp) h
    · have e : i = a.length := by
        rcases Nat.lt_trichotomy i a.length with h | h | h
        · exact absurd (by simp) (h2 a.length h)
        · exact h
        · rw [List.getElem?_append_right (by simp; omega)] at h1
          exact absurd (List.mem_of_getElem? h1) ht
      subst e; simp [ixI]
theorem at_tS (l : List Nat) (i : Nat) : StrLaws.At (tS l) (tS [47]) (tS l).length i ↔ l[i]? = some 47 := StrLaws.subAt_one (tS l) 47 i
theorem rfind_tS (l : List Nat) : Txt.rfind (tS l) (tS [47]) = (lastIx l : Int) - 1 := by
  show ixI _ = _
  refine last_of ?_
  rcases StrLaws.last_spec (tS l) (tS [47]) with ⟨h1, h2⟩ | ⟨i, h1, h2, h3⟩
  · refine .inl ⟨h1, fun hm => ?_⟩
    obtain ⟨i, hi⟩ := List.mem_iff_getElem?.mp hm
    exact h2 i ((at_tS l i).mpr hi)
  · exact .inr ⟨i, h1, (at_tS l i).mp h2, fun k hk e => h3 k hk ((at_tS l k).mpr e)⟩
theorem starts_tS (l : List Nat) : Txt.startswith (tS l) (tS [47]) = decide (l.head? = some 47) := by
  have h := at_tS l 0
  unfold StrLaws.At at h
  unfold Txt.startswith
  rw [List.head?_eq_getElem?]
  by_cases e : l[0]? = some 47
  · have := h.mpr e
    simp [this.2, e]; exact this.1
  · have : ¬ (0 + (tS [47]).length ≤ (tS l).length ∧ Builtin.Str.subAt (tS l) (tS [47]) 0 = true) := fun q => e (h.mp q)
    simp only [e, decide_false]
    rw [Bool.eq_false_iff]
    intro q
    exact this (by simpa using q)
theorem ends_tS (l : List Nat) : Txt.endswith (tS l) (tS [47]) = decide (l.getLast? = some 47) := by
  have h := at_tS l (l.length - 1)
  unfold StrLaws.At at h
  unfold Txt.endswith
  have e1 : (tS l).length - (tS [47]).length = l.length - 1 := by rw [tS_len, tS_len]; rfl
  rw [e1, List.getLast?_eq_getElem?]
  by_cases e : l[l.length - 1]? = some 47
  · have := h.mpr e
    simp only [this.2, e, decide_true, Bool.and_true, decide_eq_true_eq]
    have h1 := this.1
    rw [tS_len, tS_len] at h1 ⊢
    simp at h1 ⊢; omega
  · have : ¬ ((l.length - 1) + (tS [47]).length ≤ (tS l).length ∧ Builtin.Str.subAt (tS l) (tS [47]) (l.length - 1) = true) := fun q => e (h.mp q)
    simp only [e, decide_false]
    rw [Bool.eq_false_iff]
    intro q
    rw [tS_len, tS_len] at this q
    simp at this q
    exact absurd q.2 (by simpa using this (by omega))
theorem rstrip_tS (l : List Nat) : Txt.rstripChars (tS l) (tS [47]) = tS (rstripP l) := by
  have hc : (tS [47]).cps.contains = fun c => c == 47 := by
    funext c; simp [tS]
    by_cases hx : c = 47 <;> simp [hx]
  unfold Txt.rstripChars Txt.stripBy
  rw [hc]
  have e1 : stripLo (fun c => c == 47) false (tS l) = 0 := rfl
  have e2 : stripHi (fun c => c == 47) true (tS l) 0 = l.length - (l.reverse.takeWhile fun c => c == 47).length := by
    show (tS l).length - _ = _
    rw [tS_len]; simp [tS]
  have hle : (l.reverse.takeWhile fun c => c == 47).length ≤ l.length := by
    have := (List.takeWhile_prefix (l := l.reverse) (fun c => c == 47)).length_le
    simpa using this
  have hr : rstripP l = l.take (l.length - (l.reverse.takeWhile fun c => c == 47).length) := by
    unfold rstripP
    have h1 : l.reverse.dropWhile (fun c => c == 47) = l.reverse.drop (l.reverse.takeWhile fun c => c == 47).length := by
      conv => rhs; arg 2; rw [← List.takeWhile_append_dropWhile (p := fun c => c == 47) (l := l.reverse)]
      rw [List.drop_left]
    rw [h1, List.drop_reverse, List.reverse_reverse]
  split
  · rename_i h
    unfold stripSame at h
    rw [e1, e2, tS_len] at h
    have : l.length - (l.reverse.takeWhile fun c => c == 47).length = l.length := by simpa using h
    rw [hr, this, List.take_of_length_le (Nat.le_refl _)]
  · unfold PySem.stripped
    rw [e1, e2, hr]
    have := StrLaws.strSub_toList (tS l) 0 (l.length - (l.reverse.takeWhile fun c => c == 47).length)
    apply Str.ext'
    apply Array.toList_inj.mp
    rw [this]; simp [tS]
theorem split_tS (l : List Nat) : Txt.split (tS l) (tS [47]) = (cut47 l).map tS := by
  have h1 := StrLaws.join_split (tS l) (tS [47])
  have h2 := StrLaws.split_free (tS l) 47
  have hne : Txt.split (tS l) (tS [47]) ≠ [] := by
    unfold Txt.split
    split
    · simp
    · split
      · simp
      · rw [StrLaws.partsBetween_eq]
        obtain ⟨p, r, e⟩ := StrLaws.partsFrom_ne (tS l) (tS [47]).length 0 (Builtin.Str.occurrences (tS l) (tS [47]) 0 (tS l).length ((tS l).length + 1))
        rw [e]; simp
  generalize hs : Txt.split (tS l) (tS [47]) = ss at *
  obtain ⟨ls, rfl⟩ : ∃ ls : List (List Nat), ss = ls.map tS := ⟨ss.map (fun s => s.cps.toList), by simp [Function.comp_def, tS]⟩
  rw [strJoin_tS] at h1
  have h3 := tS_inj h1
  have hu := cut_unique ls (by simpa using hne) (fun p hp => by
    have := h2 (tS p) (by rw [show (⟨#[47]⟩ : Str) = tS [47] from rfl, hs]; exact List.mem_map_of_mem hp)
    simpa [tS] using this)
  rw [cut47_eq, ← h3, hu]
theorem one_bA {l : List Nat} (hb : B256 l) {i : Nat} (hi : i < l.length) : ((bA l).extract i (i + 1) == #[47]) = decide (l[i]? = some 47) := by
  have e1 : (bA l).extract i (i + 1) = #[UInt8.ofNat l[i]] := by
    apply Array.toList_inj.mp
    rw [Array.toList_extract, bA_toList, List.extract_eq_take_drop, Nat.add_sub_cancel_left, ← List.map_drop, List.drop_eq_getElem_cons hi]
    rfl
  rw [e1, List.getElem?_eq_getElem hi]
  have hx := hb l[i] (List.getElem_mem hi)
  by_cases h : l[i] = 47
  · rw [h]; decide
  · have : ¬ UInt8.ofNat l[i] = 47 := fun e => h (u8_inj hx (by omega) e)
    simp [h, this]
theorem occ_fold {l : List Nat} (hb : B256 l) : ∀ k, k ≤ l.length → ∃ free, free ≤ k ∧ (List.range k).foldl (fun (acc : List Nat × Nat) (i : Nat) => if (decide (i ≥ acc.2) && (bA l).extract i (i + 1) == #[47]) = true then (i :: acc.1, i + 1) else acc) ([], 0) = (((List.range k).filter fun i => l[i]? = some 47).reverse, free)
  | 0, _ => ⟨0, Nat.le_refl _, by simp⟩
  | k + 1, hk => by
    obtain ⟨free, hf, e⟩ := occ_fold hb k (by omega)
    rw [List.range_succ, List.foldl_append, e, List.filter_append]
    simp only [List.foldl_cons, List.foldl_nil]
    rw [one_bA hb (by omega), decide_eq_true (show k ≥ free by omega), Bool.true_and]
    by_cases h : l[k]? = some 47
    · exact ⟨k + 1, Nat.le_refl _, by simp [h]⟩
    · exact ⟨free, by omega, by simp [h]⟩
theorem occ_bA {l : List Nat} (hb : B256 l) : Builtin.Bytes.occurrences (bA l) #[47] 0 (bA l).size = (List.range l.length).filter fun i => l[i]? = some 47 := by
  obtain ⟨free, _, e⟩ := occ_fold hb l.length (Nat.le_refl _)
  unfold Builtin.Bytes.occurrences
  have e2 : ((List.range ((bA l).size + 1 - (0 + (#[47] : Array UInt8).size))).map (· + 0)) = List.range l.length := by
    rw [bA_size]; simp
  rw [e2]
  have e3 := congrArg (fun x : List Nat × Nat => x.1.reverse) e
  simp only [List.reverse_reverse] at e3
  exact e3
theorem btw_fold {l : List Nat} : ∀ k, k ≤ l.length → ∃ last, last ≤ k ∧ (cutSt (l.take k)).2 = (l.take k).drop last ∧
    ((List.range k).filter fun i => l[i]? = some 47).foldl (fun (x : Array (Array UInt8) × Nat) p => (x.1.push ((bA l).extract x.2 p), p + 1)) ((#[] : Array (Array UInt8)), 0) = (((cutSt (l.take k)).1.map bA).toArray, last)
  | 0, _ => ⟨0, Nat.le_refl _, by simp [cutSt], by simp [cutSt]⟩
  | k + 1, hk => by
    obtain ⟨last, hl, h1, e⟩ := btw_fold (l := l) k (by omega)
    obtain ⟨c, hc⟩ : ∃ c, l[k]? = some c := ⟨_, List.getElem?_eq_getElem (by omega)⟩
    have ht : l.take (k + 1) = l.take k ++ [c] := by rw [List.take_add_one, hc]; rfl
    have hlk : (l.take k).length = k := by simp; omega
    rw [List.range_succ, List.filter_append, List.foldl_append, e, ht, cutSt_snoc]
    unfold cutStep
    by_cases h : c = 47
    · rw [if_pos h]
      refine ⟨k + 1, Nat.le_refl _, by simp; omega, ?_⟩
      have hp : l[k]? = some 47 := by rw [hc, h]
      simp only [List.filter_cons, hp, decide_true, if_true, List.filter_nil, List.foldl_cons, List.foldl_nil]
      have e1 : (bA l).extract last k = bA ((l.take k).drop last) := by
        apply Array.toList_inj.mp
        rw [Array.toList_extract]
        simp only [bA, List.extract_eq_take_drop]
        rw [← List.map_drop, ← List.map_take, List.drop_take]
      rw [e1, ← h1]
      simp
    · rw [if_neg h]
      refine ⟨last, by omega, ?_, ?_⟩
      · dsimp only
        rw [h1, List.drop_append_of_le_length (by omega)]
      · have hp : ¬ l[k]? = some 47 := by rw [hc]; simpa using h
        simp [hp]
theorem between_bA (l : List Nat) : Builtin.Bytes.between (bA l) 1 ((List.range l.length).filter fun i => l[i]? = some 47) = (cut47 l).map bA := by
  obtain ⟨last, hl, h1, e⟩ := btw_fold (l := l) l.length (Nat.le_refl _)
  rw [List.take_of_length_le (Nat.le_refl _)] at h1 e
  unfold Builtin.Bytes.between
  have e' : ((List.range l.length).filter fun i => l[i]? = some 47).foldl (fun (x : Array (Array UInt8) × Nat) p => match x with | (parts, last) => (parts.push ((bA l).extract last p), p + 1)) ((#[] : Array (Array UInt8)), 0) = (((cutSt l).1.map bA).toArray, last) := e
  rw [e']
  have e2 : (bA l).extract last (bA l).size = bA (l.drop last) := by
    apply Array.toList_inj.mp
    rw [Array.toList_extract, bA_size]
    simp only [bA, List.extract_eq_take_drop]
    rw [← List.map_drop, List.take_of_length_le (by simp)]
  dsimp only
  rw [e2, ← h1]
  simp [cut47]
theorem split_bA (l : List Nat) (hb : B256 l) : BM.bsplit (bA l) = (cut47 l).map bA := by
  have hlen : ((List.range l.length).filter fun i => decide (l[i]? = some 47)).length ≤ l.length := by
    have := List.length_filter_le (fun i => decide (l[i]? = some 47)) (List.range l.length)
    simpa using this
  unfold BM.bsplit
  rw [occ_bA hb, List.take_of_length_le (by rw [bA_size]; omega), between_bA]
  split
  · rename_i h
    have := between_bA l
    rw [List.isEmpty_iff.mp h] at this
    rw [← this]
    simp [Builtin.Bytes.between]
  · rfl

/-! rules for texts and octets alike, the calls -/
theorem b47 : B256 [47] := by intro c hc; simp at hc; omega
theorem b256_cut {l : List Nat} (h : B256 l) : ∀ p ∈ cut47 l, B256 p := fun p hp => b256_sub h (by rw [cut47_eq] at hp; exact (cutR_mem l p hp).2)
theorem cut_sum : ∀ (l : List Nat), ((cutR l).map (·.length)).sum + (cutR l).length = l.length + 1
  | [] => by simp [cutR]
  | c :: l => by
    have ih := cut_sum l
    by_cases h : c = 47
    · subst h
      have e : cutR (47 :: l) = [] :: cutR l := rfl
      rw [e]; simp at ih ⊢; omega
    · rw [cutR_cons_free h]
      have := cutR_ne l
      cases hc : cutR l with
      | nil => exact absurd hc this
      | cons p r => rw [hc] at ih; simp [glue] at ih ⊢; omega
theorem cut_count (l : List Nat) : (cut47 l).length ≤ l.length + 1 := by rw [cut47_eq]; have := cut_sum l; omega
theorem strsFrom_paired : ∀ (tk : Nat) (xs : List Str), Paired (fun v x => ∃ t, v = Value.str x t) (strsFrom tk xs) xs
  | _, [] => .nil
  | tk, x :: r => .cons ⟨tk, rfl⟩ (strsFrom_paired (tk + 1) r)
theorem paired_unmap {α β γ : Type} {F : α → γ → Prop} {f : β → γ} : ∀ {l₁ : List α} {l₂ : List β}, Paired F l₁ (l₂.map f) → Paired (fun a b => F a (f b)) l₁ l₂
  | [], [], _ => .nil
  | _ :: _, [], h => by cases h
  | [], _ :: _, h => by cases h
  | _ :: _, _ :: _, h => by cases h with | cons h t => exact .cons h (paired_unmap t)
theorem paired_with {α β : Type} {F : α → β → Prop} {P : β → Prop} : ∀ {l₁ : List α} {l₂ : List β}, Paired F l₁ l₂ → (∀ b ∈ l₂, P b) → Paired (fun a b => F a b ∧ P b) l₁ l₂
  | _, _, .nil, _ => .nil
  | _, _, .cons h t, hp => .cons ⟨h, hp _ (by simp)⟩ (paired_with t (fun b hb => hp b (by simp [hb])))
section
variable {prog : Program} {w : World} {A : Around} {E : Value → Shared → Prop} {s : Shared} {lo : Nat} {z₀ hc z : Heap} {L : Addr} {m : Str → Option Value} {ms : List (Addr × Obj)} {k : Bool} {l : List Nat} {v u : Value}
theorem pM_startswith {M : Model} {pl : Sem Bool} {Q : Value × List Value → Shared → Prop} (hv : PV k l v) (h : Q (.builtin (kid k "str.startswith" "bytes.startswith"), [v]) s) : wpAny M A (getMethod v "startswith" pl) Q E s := by
  cases k with
  | true => obtain ⟨t, rfl⟩ := hv.str; have h' : Q (.builtin "str.startswith", [.str (tS l) t]) s := h; with_reducible exact GM.startswith h'
  | false => obtain ⟨t, rfl⟩ := hv.byt; have h' : Q (.builtin "bytes.startswith", [.bytes (bA l) t]) s := h; with_reducible exact KBd.method_of (.bytes (bA l) t) (typeIs_bytes _ _ _) FB.slot_bytes_startswith FB.type_bytes_startswith KBd.noRef h'
theorem pM_endswith {M : Model} {pl : Sem Bool} {Q : Value × List Value → Shared → Prop} (hv : PV k l v) (h : Q (.builtin (kid k "str.endswith" "bytes.endswith"), [v]) s) : wpAny M A (getMethod v "endswith" pl) Q E s := by
  cases k with
  | true => obtain ⟨t, rfl⟩ := hv.str; have h' : Q (.builtin "str.endswith", [.str (tS l) t]) s := h; with_reducible exact GM.endswith h'
  | false => obtain ⟨t, rfl⟩ := hv.byt; have h' : Q (.builtin "bytes.endswith", [.bytes (bA l) t]) s := h; with_reducible exact KBd.method_of (.bytes (bA l) t) (typeIs_bytes _ _ _) FB.slot_bytes_endswith FB.type_bytes_endswith KBd.noRef h'
theorem pM_rfind {M : Model} {pl : Sem Bool} {Q : Value × List Value → Shared → Prop} (hv : PV k l v) (h : Q (.builtin (kid k "str.rfind" "bytes.rfind"), [v]) s) : wpAny M A (getMethod v "rfind" pl) Q E s := by
  cases k with
  | true => obtain ⟨t, rfl⟩ := hv.str; have h' : Q (.builtin "str.rfind", [.str (tS l) t]) s := h; with_reducible exact GM.rfind h'
  | false => obtain ⟨t, rfl⟩ := hv.byt; have h' : Q (.builtin "bytes.rfind", [.bytes (bA l) t]) s := h; with_reducible exact KBd.method_of (.bytes (bA l) t) (typeIs_bytes _ _ _) BM.slot_rfind BM.type_rfind KBd.noRef h'
theorem pM_rstrip {M : Model} {pl : Sem Bool} {Q : Value × List Value → Shared → Prop} (hv : PV k l v) (h : Q (.builtin (kid k "str.rstrip" "bytes.rstrip"), [v]) s) : wpAny M A (getMethod v "rstrip" pl) Q E s := by
  cases k with
  | true => obtain ⟨t, rfl⟩ := hv.str; have h' : Q (.builtin "str.rstrip", [.str (tS l) t]) s := h; with_reducible exact GM.rstrip h'
  | false => obtain ⟨t, rfl⟩ := hv.byt; have h' : Q (.builtin "bytes.rstrip", [.bytes (bA l) t]) s := h; with_reducible exact KBd.method_of (.bytes (bA l) t) (typeIs_bytes _ _ _) BM.slot_rstrip BM.type_rstrip KBd.noRef h'
theorem pM_split {M : Model} {pl : Sem Bool} {Q : Value × List Value → Shared → Prop} (hv : PV k l v) (h : Q (.builtin (kid k "str.split" "bytes.split"), [v]) s) : wpAny M A (getMethod v "split" pl) Q E s := by
  cases k with
  | true => obtain ⟨t, rfl⟩ := hv.str; have h' : Q (.builtin "str.split", [.str (tS l) t]) s := h; with_reducible exact GM.split h'
  | false => obtain ⟨t, rfl⟩ := hv.byt; have h' : Q (.builtin "bytes.split", [.bytes (bA l) t]) s := h; with_reducible exact KBd.method_of (.bytes (bA l) t) (typeIs_bytes _ _ _) BM.slot_split BM.type_split KBd.noRef h'
theorem pM_join {M : Model} {pl : Sem Bool} {Q : Value × List Value → Shared → Prop} (hv : PV k l v) (h : Q (.builtin (kid k "str.join" "bytes.join"), [v]) s) : wpAny M A (getMethod v "join" pl) Q E s := by
  cases k with
  | true => obtain ⟨t, rfl⟩ := hv.str; have h' : Q (.builtin "str.join", [.str (tS l) t]) s := h; with_reducible exact GM.join h'
  | false => obtain ⟨t, rfl⟩ := hv.byt; have h' : Q (.builtin "bytes.join", [.bytes (bA l) t]) s := h; with_reducible exact KBd.method_of (.bytes (bA l) t) (typeIs_bytes _ _ _) BM.slot_join BM.type_join KBd.noRef h'
theorem bA47 : bA [47] = #[47] := by decide
theorem pRfind {Q : Value → Shared → Prop} (hv : PV k l v) (hu : PV k [47] u) (h : ∀ t s', s'.heap = s.heap → Like s s' → Q (.int ((lastIx l : Int) - 1) t) s') : wpAny (model prog w) A (call (.builtin (kid k "str.rfind" "bytes.rfind")) [v, u]) Q E s := by
  cases k with
  | true =>
    obtain ⟨t, rfl⟩ := hv.str; obtain ⟨t', rfl⟩ := hu.str
    refine SC.rfind ?_
    rw [rfind_tS]; exact h _ { s with toks := s.toks + 1 } rfl ⟨rfl, rfl, rfl⟩
  | false =>
    obtain ⟨t, rfl⟩ := hv.byt; obtain ⟨t', rfl⟩ := hu.byt
    rw [bA47]
    refine BM.rfind_call ?_
    have e : ixI (Builtin.Bytes.rfind? (bA l) #[47] 0 (bA l).size) = (lastIx l : Int) - 1 := by
      refine last_of ?_
      have e1 : Builtin.Bytes.rfind? (bA l) #[47] 0 (bA l).size = (List.range l.length).reverse.find? fun i => (bA l).extract i (i + 1) == #[47] := by
        unfold Builtin.Bytes.rfind?
        rw [bA_size]; simp
      rw [e1]
      cases hf : (List.range l.length).reverse.find? fun i => (bA l).extract i (i + 1) == #[47] with
      | none =>
        refine .inl ⟨rfl, fun hm => ?_⟩
        obtain ⟨i, hi⟩ := List.mem_iff_getElem?.mp hm
        have hlt := (List.getElem?_eq_some_iff.mp hi).1
        have := List.find?_eq_none.mp hf i (by simp; exact hlt)
        rw [one_bA hv.1 hlt, hi] at this
        simp at this
      | some i =>
        refine .inr ⟨i, rfl, ?_, ?_⟩
        · have hm := List.mem_of_find?_eq_some hf
          have hlt : i < l.length := by simpa using hm
          have hp := List.find?_some hf
          rw [one_bA hv.1 hlt] at hp
          simpa using hp
        · intro j hj hj2
          have hlt := (List.getElem?_eq_some_iff.mp hj2).1
          obtain ⟨_, as, bs, e, hn⟩ := List.find?_eq_some_iff_append.mp hf
          have hjm : j ∈ as := by
            have e2 := congrArg List.reverse e
            rw [List.reverse_reverse, List.reverse_append, List.reverse_cons, List.append_assoc] at e2
            have hlen : bs.reverse.length = i := by
              have hi2 : (List.range l.length)[bs.reverse.length]? = some i := by rw [e2, List.getElem?_append_right (Nat.le_refl _)]; simp
              have := List.getElem?_eq_some_iff.mp hi2
              obtain ⟨h1, h2⟩ := this
              rw [List.getElem_range] at h2; exact h2
            have hj3 : (List.range l.length)[j]? = some j := by rw [List.getElem?_range hlt]
            rw [e2, List.getElem?_append_right (by omega)] at hj3
            have hne : ¬ j - bs.reverse.length = 0 := by omega
            have hj4 : ([i] ++ as.reverse)[j - bs.reverse.length]? = some j := hj3
            rw [List.getElem?_append_right (by simp; simp at hne; omega)] at hj4
            exact List.mem_reverse.mp (List.mem_of_getElem? hj4)
          have := hn j hjm
          rw [one_bA hv.1 hlt, hj2] at this
          simp at this
    show Q (.int (ixI _) _) _
    rw [e]; exact h _ { s with toks := s.toks + 1 } rfl ⟨rfl, rfl, rfl⟩
theorem pStarts {Q : Value → Shared → Prop} (hv : PV k l v) (hu : PV k [47] u) (h : Q (.bool (decide (l.head? = some 47))) s) : wpAny (model prog w) A (call (.builtin (kid k "str.startswith" "bytes.startswith")) [v, u]) Q E s := by
  cases k with
  | true =>
    obtain ⟨t, rfl⟩ := hv.str; obtain ⟨t', rfl⟩ := hu.str
    refine SC.startswith ?_
    rw [starts_tS]; exact h
  | false =>
    obtain ⟨t, rfl⟩ := hv.byt; obtain ⟨t', rfl⟩ := hu.byt
    rw [bA47]
    refine wpAny_call_entry FB.slot_bytes_startswith (typeIs_bytes s _ t) FB.entry_bytes_startswith ?_ (by unfold argsOk; kernel_rfl)
    refine BM.tail_call ?_
    have e : (if (((bA l).size : Int) - 0 < ((#[47] : Array UInt8).size : Int)) then false else if false = true then (bA l).extract ((((bA l).size : Int)).toNat - (#[47] : Array UInt8).size) (((bA l).size : Int)).toNat == #[47] else (bA l).extract (0 : Int).toNat ((0 : Int).toNat + (#[47] : Array UInt8).size) == #[47]) = decide (l.head? = some 47) := by
      rw [bA_size]
      cases l with
      | nil => simp
      | cons c l =>
        have := one_bA hv.1 (i := 0) (by simp)
        rw [if_neg (by simp; omega)]
        simp only [Bool.false_eq_true, if_false]
        show ((bA (c :: l)).extract 0 (0 + 1) == #[47]) = _
        rw [this]; simp
    rw [e]; exact h
  
theorem pEnds {Q : Value → Shared → Prop} (hv : PV k l v) (hu : PV k [47] u) (h : Q (.bool (decide (l.getLast? = some 47))) s) : wpAny (model prog w) A (call (.builtin (kid k "str.endswith" "bytes.endswith")) [v, u]) Q E s := by
  cases k with
  | true =>
    obtain ⟨t, rfl⟩ := hv.str; obtain ⟨t', rfl⟩ := hu.str
    refine SC.endswith ?_
    rw [ends_tS]; exact h
  | false =>
    obtain ⟨t, rfl⟩ := hv.byt; obtain ⟨t', rfl⟩ := hu.byt
    rw [bA47]
    refine wpAny_call_entry FB.slot_bytes_endswith (typeIs_bytes s _ t) FB.entry_bytes_endswith ?_ (by unfold argsOk; kernel_rfl)
    refine BM.tail_call ?_
    have e : (if (((bA l).size : Int) - 0 < ((#[47] : Array UInt8).size : Int)) then false else if true = true then (bA l).extract ((((bA l).size : Int)).toNat - (#[47] : Array UInt8).size) (((bA l).size : Int)).toNat == #[47] else (bA l).extract (0 : Int).toNat ((0 : Int).toNat + (#[47] : Array UInt8).size) == #[47]) = decide (l.getLast? = some 47) := by
      rw [bA_size]
      by_cases hl : l = []
      · subst hl; simp
      · have hpos : 0 < l.length := List.length_pos_iff.mpr hl
        have := one_bA hv.1 (i := l.length - 1) (by omega)
        rw [if_neg (by simp; omega), if_pos rfl]
        have e2 : (l.length : Int).toNat = l.length - 1 + 1 := by omega
        have e3 : (l.length : Int).toNat - (#[47] : Array UInt8).size = l.length - 1 := by simp
        rw [e3, e2, this, List.getLast?_eq_getElem?]
    rw [e]; exact h
theorem rstrip_b {l : List Nat} (h : B256 l) : ((bA l).toList.reverse.dropWhile (fun x => x == 47)).reverse.toArray = bA (rstripP l) := by
  apply Array.toList_inj.mp
  rw [bA_toList, bA_toList]
  unfold rstripP
  rw [List.map_reverse, ← List.map_reverse]
  have : ∀ l : List Nat, B256 l → (l.map fun n => UInt8.ofNat n).dropWhile (fun x => x == 47) = (l.dropWhile fun c => c == 47).map fun n => UInt8.ofNat n := by
    intro l
    induction l with
    | nil => intro _; rfl
    | cons c l ih =>
      intro hb
      have ih := ih (fun x hx => hb x (by simp [hx]))
      by_cases hc : c = 47
      · subst hc
        simp only [List.map_cons, List.dropWhile_cons]
        rw [if_pos (by decide), if_pos (by decide)]; exact ih
      · have h1 : ¬ UInt8.ofNat c = 47 := fun e => hc (u8_inj (hb c (by simp)) (by omega) e)
        simp only [List.map_cons, List.dropWhile_cons]
        rw [if_neg (by simpa using h1), if_neg (by simpa using hc)]; rfl
  rw [this _ (fun c hc => h c (by simpa using hc))]
theorem pRstrip {Q : Value → Shared → Prop} (hv : PV k l v) (hu : PV k [47] u) (hn : l.length ≤ 1000000) (h : ∀ r s', s'.heap = s.heap → Like s s' → PV k (rstripP l) r → Q r s') : wpAny (model prog w) A (call (.builtin (kid k "str.rstrip" "bytes.rstrip")) [v, u]) Q E s := by
  have hb : B256 (rstripP l) := b256_sub hv.1 fun c hc => rstrip_mem hc
  cases k with
  | true =>
    obtain ⟨t, rfl⟩ := hv.str; obtain ⟨t', rfl⟩ := hu.str
    refine SC.rstripChars (fun t'' k => ?_) (by rw [tS_len, sizeLine_eq]; omega)
    rw [rstrip_tS]; exact h _ { s with toks := k } rfl ⟨rfl, rfl, rfl⟩ (pv_str hb)
  | false =>
    obtain ⟨t, rfl⟩ := hv.byt; obtain ⟨t', rfl⟩ := hu.byt
    rw [bA47]
    refine BM.rstrip_call (by rw [bA_size]; omega) (fun t'' k => ?_)
    rw [rstrip_b hv.1]; exact h _ { s with toks := k } rfl ⟨rfl, rfl, rfl⟩ (pv_byt hb)
theorem pMul {Q : Value → Shared → Prop} {n : Nat} {tn : Tok} (hu : PV k [47] u) (hn : n ≤ 1000000) (h : ∀ r s', s'.heap = s.heap → Like s s' → PV k (List.replicate n 47) r → Q r s') : wpAny (model prog w) A (binaryOp .Mult u (.int (n : Int) tn)) Q E s := by
  have hb : B256 (List.replicate n 47) := fun c hc => by rw [List.eq_of_mem_replicate hc]; omega
  cases k with
  | true =>
    obtain ⟨t', rfl⟩ := hu.str
    refine SB.mul (mulOk_of 1 1000000 (by rw [tS_len]; simp) (by omega) (by omega) (by omega) (by omega)) fun t'' k => ?_
    have e : Txt.mul (tS [47]) (n : Int) = tS (List.replicate n 47) := by
      unfold Txt.mul
      have rep : ∀ (n : Nat) (acc : Array Nat), (List.replicate n (tS [47]).cps).foldl (· ++ ·) acc = acc ++ (List.replicate n 47).toArray := by
        intro n
        induction n with
        | zero => intro acc; simp
        | succ n ih =>
          intro acc
          rw [List.replicate_succ, List.foldl_cons, ih, Array.append_assoc, List.replicate_succ]
          congr 1
          simp [tS]
      split
      · have : n = 0 := by omega
        subst this; rfl
      · split
        · rename_i h1 h2
          have : n = 1 := by
            rw [tS_len] at h2
            simp at h2; omega
          subst this; rfl
        · rw [show (n : Int).toNat = n by omega, rep]; simp [tS]
    rw [e]; exact h _ { s with toks := k } rfl ⟨rfl, rfl, rfl⟩ (pv_str hb)
  | false =>
    obtain ⟨t', rfl⟩ := hu.byt
    rw [show bA [47] = ([47] : List UInt8).toArray from bA47]
    refine bytes_mul_any (by simp) (by omega) (by omega) (by simp) fun t'' k => ?_
    have e : ((List.replicate (n : Int).toNat ([47] : List UInt8)).flatten).toArray = bA (List.replicate n 47) := by
      unfold bA
      rw [List.map_replicate, show (n : Int).toNat = n by omega]
      congr 1
      have : ∀ n : Nat, (List.replicate n ([47] : List UInt8)).flatten = List.replicate n 47 := by
        intro n
        induction n with
        | zero => rfl
        | succ n ih => rw [List.replicate_succ, List.flatten_cons, ih]; rfl
      rw [this]; rfl
    rw [e]; exact h _ { s with toks := k } rfl ⟨rfl, rfl, rfl⟩ (pv_byt hb)
theorem pSplit {Q : Value → Shared → Prop} (F : Fz lo z₀ hc z L m ms s.heap) (hv : PV k l v) (hu : PV k [47] u) (hn : l.length ≤ 1000000)
    (h : ∀ D z' s', Fz lo z₀ hc z' L m ms s'.heap → z.StaysIn z' → LstOf (fun _ v l => PV k l v) z' (.ref D) (cut47 l) → Like s s' → Q (.ref D) s') :
    wpAny (model prog w) A (call (.builtin (kid k "str.split" "bytes.split")) [v, u]) Q E s := by
  have hcnt := cut_count l
  have fin : ∀ (vs : List Value) (tk : Nat), Paired (fun v l => PV k l v) vs (cut47 l) → Q (.ref s.heap.objs.size) { s with toks := tk, heap := s.heap.push (LO vs 0) } := by
    intro vs tk hp
    obtain ⟨z', F', hz, e⟩ := F.alloc (LO vs 0)
    exact h _ z' { s with toks := tk, heap := s.heap.push (LO vs 0) } F' hz ⟨_, vs, 0, rfl, e, hp⟩ ⟨rfl, rfl, rfl⟩
  cases k with
  | true =>
    obtain ⟨t, rfl⟩ := hv.str; obtain ⟨t', rfl⟩ := hu.str
    have hsp := split_tS l
    have mk : ∀ vs : List Value, Paired (fun v x => ∃ t, v = Value.str x t) vs ((cut47 l).map tS) → Paired (fun v l => PV true l v) vs (cut47 l) := by
      intro vs hp
      refine paired_mono ?_ (paired_with (paired_unmap hp) (b256_cut hv.1))
      rintro v p ⟨⟨t, rfl⟩, hb⟩
      exact pv_str hb
    cases h1 : (decide ((tS l).length < (tS [47]).length) || decide (Builtin.Str.strKind (tS l) < Builtin.Str.strKind (tS [47])))
    · cases hf : (Builtin.Str.occurrences (tS l) (tS [47]) 0 (tS l).length ((tS l).length + 1)).isEmpty
      · have e : Builtin.Str.partsBetween (tS l) (Builtin.Str.occurrences (tS l) (tS [47]) 0 (tS l).length ((tS l).length + 1)) (tS [47]).length = (cut47 l).map tS := by
          rw [← hsp]; unfold Txt.split; rw [if_neg (by rw [h1]; exact Bool.false_ne_true), if_neg (by rw [hf]; exact Bool.false_ne_true)]
        refine call_meets PySem.F.slot_str_split (typeIs_str _ _ _) PySem.F.entry_str_split (PySem.F.args_str_split_2 _ _) (meets_str_split_sep _ _ t t' h1 rfl hf (by rw [tS_len, sizeLine_eq]; omega) (by rw [e, List.length_map, sizeLine_eq]; omega)) ?_
        rw [e]
        exact fin _ _ (mk _ (strsFrom_paired _ _))
      · refine call_meets PySem.F.slot_str_split (typeIs_str _ _ _) PySem.F.entry_str_split (PySem.F.args_str_split_2 _ _) (meets_str_split_not_found _ _ t t' h1 rfl hf) ?_
        have e : (cut47 l).map tS = [tS l] := by rw [← hsp]; unfold Txt.split; rw [if_neg (by rw [h1]; exact Bool.false_ne_true), if_pos hf]
        refine fin [.str (tS l) t] s.toks (mk _ ?_)
        rw [e]; exact .cons ⟨t, rfl⟩ .nil
    · refine call_meets PySem.F.slot_str_split (typeIs_str _ _ _) PySem.F.entry_str_split (PySem.F.args_str_split_2 _ _) (meets_str_split_cannot_occur _ _ t t' h1) ?_
      have e : (cut47 l).map tS = [tS l] := by rw [← hsp]; unfold Txt.split; rw [if_pos h1]
      refine fin [.str (tS l) t] s.toks (mk _ ?_)
      rw [e]; exact .cons ⟨t, rfl⟩ .nil
  | false =>
    obtain ⟨t, rfl⟩ := hv.byt; obtain ⟨t', rfl⟩ := hu.byt
    rw [bA47]
    have hsp := split_bA l hv.1
    refine BM.split_call ?_ (by rw [hsp, List.length_map, sizeLine_eq]; omega) ?_
    · rw [hsp]
      intro x hx
      obtain ⟨p, hp, rfl⟩ := List.mem_map.mp hx
      have h1 := cut_sum l
      rw [cut47_eq] at hp
      have h2 : p.length ≤ ((cutR l).map (·.length)).sum := by
        have : ∀ (L : List Nat), ∀ x ∈ L, x ≤ L.sum := by
          intro L
          induction L with
          | nil => intro x hx; simp at hx
          | cons y L ih => intro x hx; rcases List.mem_cons.mp hx with rfl | hx; simp; have := ih x hx; simp; omega
        exact this _ _ (List.mem_map_of_mem hp)
      rw [bA_size, sizeLine_eq]; omega
    · intro vs tk hp
      rw [hsp] at hp
      refine wpAny_newObj_type ?_ (by show vs.toArray.size ≤ sizeLine; rw [List.size_toArray, hp.length, List.length_map, sizeLine_eq]; omega)
      refine fin vs tk ?_
      refine paired_mono ?_ (paired_with (paired_unmap hp) (b256_cut hv.1))
      rintro v p ⟨⟨t, rfl⟩, hb⟩
      exact pv_byt hb
theorem b256_jn : ∀ (ls : List (List Nat)), (∀ p ∈ ls, B256 p) → B256 (jn [47] ls)
  | [], _ => fun _ hc => by simp [jn] at hc
  | [x], h => h x (by simp)
  | x :: y :: r, h => b256_append (b256_append (h x (by simp)) b47) (b256_jn (y :: r) (fun p hp => h p (by simp only [List.mem_cons] at hp ⊢; exact .inr hp)))
theorem pJoin {Q : Value → Shared → Prop} {D : Addr} {ys : List Value} {kk : Nat} {pc : List (List Nat)} (hu : PV k [47] u) (hD : s.heap.get? D = some (LO ys kk)) (hp : Paired (fun v l => PV k l v) ys pc) (hsz : (pc.map (·.length)).sum + pc.length ≤ 1000000)
    (h : ∀ r s', s'.heap = s.heap → Like s s' → PV k (jn [47] pc) r → Q r s') : wpAny (model prog w) A (call (.builtin (kid k "str.join" "bytes.join")) [u, .ref D]) Q E s := by
  have hb : B256 (jn [47] pc) := b256_jn pc fun p hpm => by
    obtain ⟨i, hi⟩ := List.mem_iff_getElem?.mp hpm
    obtain ⟨v, _, hv⟩ := paired_get' hp hi
    exact hv.1
  cases k with
  | true =>
    obtain ⟨t', rfl⟩ := hu.str
    refine zJoinS (z := s.heap) (ls := pc) (stays_refl _) hD (paired_mono (fun v l hv => hv.str) hp) rfl (by simp; omega) fun t'' k => ?_
    exact h _ { s with toks := k } rfl ⟨rfl, rfl, rfl⟩ (pv_str hb)
  | false =>
    obtain ⟨t', rfl⟩ := hu.byt
    rw [bA47]
    refine BM.join_call hD (paired_mono (fun v l hv => hv.byt) hp) hsz fun t'' k => ?_
    exact h _ { s with toks := k } rfl ⟨rfl, rfl, rfl⟩ (pv_byt hb)
theorem pSlice {value slice : Expr} {vl vu : Value} {lo' hi' : Option Int} {Q : Value → Shared → Prop} (F : Fz lo z₀ hc z L m ms s.heap) (hv : PV k l v) (hl : IsPart vl lo') (hu : IsPart vu hi') (hn : l.length ≤ 1000000)
    (h : ∀ r s', Fz lo z₀ hc z L m ms s'.heap → Like s s' → PV k (cutP lo' hi' l) r → Q r s')
    (hs : ∀ v n, (∃ x t, v = Value.str x t) ∨ (∃ x t, v = Value.bytes x t) → subscripted slice false v (.ref n) = operate [.ref n, v] (getItem v (.ref n)) := by intro v n hv; rcases hv with ⟨_, _, rfl⟩ | ⟨_, _, rfl⟩ <;> with_unfolding_all rfl)
    (ht : ∀ v r, letTemporaryGo value v r = pure () := by intro _ _; with_unfolding_all rfl) :
    wpAny (model prog w) A (subscriptTail value slice v (.ref s.heap.objs.size)) Q E { s with heap := s.heap.push { cls := .type "slice", data := .fields #[vl, vu, .none] } } := by
  have hb : B256 (cutP lo' hi' l) := b256_sub hv.1 fun c hc => cutP_mem hc
  have F' := F.push { cls := .type "slice", data := .fields #[vl, vu, .none] }
  cases k with
  | true =>
    obtain ⟨t, rfl⟩ := hv.str
    have key : ∀ h' t' k, Fz lo z₀ hc z L m ms h' → Q (.str (Txt.slice (tS l) lo' hi') t') { s with heap := h', toks := k } := by
      intro h' t' k F'
      rw [slice_tS]
      exact h _ { s with heap := h', toks := k } F' ⟨rfl, rfl, rfl⟩ (pv_str hb)
    have hsz : (tS l).length ≤ sizeLine := by rw [tS_len, sizeLine_eq]; omega
    have hsc := hs (.str (tS l) t) s.heap.objs.size (.inl ⟨_, _, rfl⟩)
    cases hl <;> cases hu
    · exact tail_of_ItemOn (SBH.sliceItem_nn keptZ F key hsz) hsc (ht _)
    · exact tail_of_ItemOn (SBH.sliceItem_ns keptZ F key hsz) hsc (ht _)
    · exact tail_of_ItemOn (SBH.sliceItem_sn keptZ F key hsz) hsc (ht _)
    · exact tail_of_ItemOn (SBH.sliceItem_ss keptZ F key hsz) hsc (ht _)
  | false =>
    obtain ⟨t, rfl⟩ := hv.byt
    refine tail_of_ItemOn ⟨"bytes", _, FB.slot_bytes_getitem.lookup, typeIs_bytes _ _ _, getItem_meets (typeIs_bytes _ _ _) (by decide) FB.slot_bytes_getitem FB.entry_bytes_getitem (FB.args_bytes_getitem_2 _ _) (KBc.meets_slice2 (bA l) t _ hl hu)
      ⟨Heap.IsSliceOf.new _ _ _ _, by rw [picked_bA, bA_size, sizeLine_eq]; have := cutP_len lo' hi' l; omega, fun t' k => ?_⟩⟩ (hs _ _ (.inr ⟨_, _, rfl⟩)) (ht _)
    rw [picked_bA]
    exact h _ { s with heap := s.heap.push { cls := .type "slice", data := .fields #[vl, vu, .none] }, toks := k } F' ⟨rfl, rfl, rfl⟩ (pv_byt hb)
end

section
variable {lo : Nat} {z₀ hc z z' h h' : Heap} {L : Addr} {m m' : Str → Option Value} {ms : List (Addr × Obj)}
theorem Fz.onto {s s' : Shared} (e : s'.heap = s.heap) (F : Fz lo z₀ hc z L m ms s.heap) : Fz lo z₀ hc z L m ms s'.heap := e ▸ F
theorem ext_stays (he : Heap.ExtBut h.objs.size h h') : h.StaysIn h' := fun b o e => he b o (Nat.ne_of_lt (Heap.lt_size e)) e
theorem Fz.extNew (F : Fz lo z₀ hc z L m ms h) (he : Heap.ExtBut h.objs.size h h') (sz : h.objs.size ≤ h'.objs.size) : Fz lo z₀ hc z L m ms h' :=
  F.step ⟨stays_refl _, ext_stays he, stays_trans F.keep (ext_stays he), sz, fun _ _ e => .inr e⟩
end
section
variable {prog : Program} {w : World} {A : Around} {E : Value → Shared → Prop} {s : Shared} {env : Env} {lo : Nat} {z₀ hc z : Heap} {L : Addr} {m : Str → Option Value} {ms : List (Addr × Obj)}
theorem zUnpackItems {t : Addr} {its : List Value} {k n : Nat} {Q : List Value → Shared → Prop} (F : Fz lo z₀ hc z L m ms s.heap) (ht : z.get? t = some (TO its k)) (hh : A.handled = none) (hn : n = its.length)
    (h : ∀ s', Fz lo z₀ hc z L m ms s'.heap → Like s s' → Q its s') : wpAny (model prog w) A (unpackItems (.ref t) n none) Q E s := by
  subst hn
  refine wpAny_sized ?_
  have := unpackItems_tuple (prog := prog) (w := w) (A := A) (E := E) (s := s) (t := t) (items := its.toArray) (Q := fun a s' => s.heap.objs.size ≤ s'.heap.objs.size → Q a s') hh ⟨_, F.keep _ _ ht, rfl, k, rfl⟩ (fun h' he hsz => h { s with heap := h' } (F.extNew he hsz) ⟨rfl, rfl, rfl⟩)
  simpa using this
theorem zAssignT {elts : List Expr} {kk} {pos : Pos} {t : Addr} {its : List Value} {k : Nat} {Q : Unit → Shared → Prop} (F : Fz lo z₀ hc z L m ms s.heap) (ht : z.get? t = some (TO its k)) (hh : A.handled = none)
    (h : ∀ s', Fz lo z₀ hc z L m ms s'.heap → Like s s' → wpAny (model prog w) A (assignInOrder ((assignEach elts env).map (·.2)) its) Q E s')
    (hn : (assignEach elts env).length = its.length := by rfl) (hstar : (assignEach elts env).findIdx? (·.1) = none := by rfl) : wpAny (model prog w) A (assign (.Tuple elts kk pos) env (.ref t)) Q E s := by
  rw [assign_Tuple]
  refine wpAny_bind (wpAny_standAt ?_)
  unfold unpack
  rw [hstar]
  exact wpAny_bind (wpAny_holding (zUnpackItems F ht hh hn h))
end
section
variable {prog : Program} {w : World} {A : Around} {E : Value → Shared → Prop} {s : Shared} {env : Env} {lo : Nat} {z₀ hc z : Heap} {L : Addr} {m : Str → Option Value} {ms : List (Addr × Obj)}
theorem zCallB0 {M : Model} {pos : Pos} {id : String} {first : List Value} {Q : Value → Shared → Prop} (h : wpAny M A (call (.builtin id) first) Q E s) : wpAny M A (callWith pos (.builtin id) first (backTo pos (starEach [] env)) []) Q E s := by
  show wpAny M A (callWith pos (.builtin id) first [] []) Q E s
  exact Calls.callWith_builtin rfl (PyProof.Rows.evalArgs_nil3 (by simpa using h))
theorem zTruthL {D : Addr} {ys : List Value} {k : Nat} {Q : Bool → Shared → Prop} (hD : s.heap.get? D = some (LO ys k)) (hn : ys.length ≤ 1000000) (h : ∀ s', s'.heap = s.heap → Like s s' → Q (decide (ys ≠ [])) s') : wpAny (model prog w) A (truthy (.ref D)) Q E s := by
  refine wpAny_truthy_list (items := ys.toArray) ⟨_, hD, rfl, k, rfl⟩ (by simp; omega) ?_
  have e : (!ys.toArray.isEmpty) = decide (ys ≠ []) := by cases ys <;> simp
  rw [e]; exact h { s with toks := s.toks + 1 + 1 } rfl ⟨rfl, rfl, rfl⟩
theorem zPop {pre post : List (Addr × Obj)} {D : Addr} {ys : List Value} {x : Value} {k : Nat} {Q : Value → Shared → Prop} (F : Fz lo z₀ hc z L m (pre ++ (D, LO (ys ++ [x]) k) :: post) s.heap) (hsz : ys.length ≤ 1000000)
    (h : ∀ k' s', Fz lo z₀ hc z L m (pre ++ (D, LO ys k') :: post) s'.heap → Like s s' → Q x s') : wpAny (model prog w) A (call (.builtin "list.pop") [.ref D]) Q E s := by
  have ho := (F.mu (D, LO (ys ++ [x]) k) (by simp)).1
  have hz' : (ys ++ [x]).toArray.size ≤ sizeLine := by rw [List.size_toArray, sizeLine_eq]; simp; omega
  have hk : (ys ++ [x]).toArray.size - 1 = ys.length := by rw [List.size_toArray, List.length_append]; rfl
  have hy : (ys ++ [x]).toArray[(ys ++ [x]).toArray.size - 1]? = some x := by rw [hk]; simp
  refine call_meets PySem.F.slot_list_pop ⟨_, ho, rfl⟩ PySem.F.entry_list_pop (PySem.F.args_list_pop_1 _) (PySem.MeetsSeq.list_pop_last D _ k x hy hz') ⟨ho, ?_⟩
  have he : (ys ++ [x]).toArray.eraseIdxIfInBounds ((ys ++ [x]).toArray.size - 1) = ys.toArray := by
    rw [hk]; have := kl_eraseL ys [] x
    simp [Array.eraseIdxIfInBounds]
    simpa using this
  have q := PySem.IsL.update (h := s.heap) (l := D) (items := (ys ++ [x]).toArray) (n := k) ho (fun xs => xs.eraseIdxIfInBounds ((ys ++ [x]).toArray.size - 1))
  rw [he] at q
  exact h _ { s with heap := s.heap.update D (Obj.mapSeq fun xs => xs.eraseIdxIfInBounds ((ys ++ [x]).toArray.size - 1)) } (F.mutate (Heap.SameBut.update ..) q) ⟨rfl, rfl, rfl⟩
theorem zSliceL {value slice : Expr} {l : Addr} {its res : List Value} {k : Nat} {vl vu vk : Value} {lo' hi' st' : Option Int} {ops : List Value} {Q : Value → Shared → Prop} (F : Fz lo z₀ hc z L m ms s.heap) (hl : s.heap.get? l = some (LO its k))
    (pl : IsPart vl lo') (pu : IsPart vu hi') (pk : IsPart vk st') (h0 : st' ≠ some 0) (hn : its.length ≤ 1000000) (hres : slicePick its.toArray lo' hi' st' = res.toArray)
    (h : ∀ D z' s', Fz lo z₀ hc z' L m ms s'.heap → z.StaysIn z' → z'.get? D = some (LO res 0) → Like s s' → Q (.ref D) s')
    (hs : subscripted slice false (.ref l) (.ref s.heap.objs.size) = operate ops (getItem (.ref l) (.ref s.heap.objs.size)) := by with_unfolding_all rfl) :
    wpAny (model prog w) A (subscriptTail value slice (.ref l) (.ref s.heap.objs.size)) Q E { s with heap := s.heap.push { cls := .type "slice", data := .fields #[vl, vu, vk] } } := by
  have hL : s.heap.IsList l its.toArray := ⟨_, hl, rfl, k, rfl⟩
  refine tail_any (Heap.IsList.typeIs (s := { s with heap := s.heap.push { cls := .type "slice", data := .fields #[vl, vu, vk] } }) (hL.push _)) list_getitem_lookup
    (wpAny_getItem_list_slice (hL.push _) (Heap.IsSliceOf.new ..) pl pu pk h0 ?_ (by rw [List.size_toArray, sizeLine_eq]; omega)) hs
  rw [hres]
  obtain ⟨z', F', hz, e⟩ := (F.push { cls := .type "slice", data := .fields #[vl, vu, vk] }).alloc (LO res 0)
  exact h _ z' { s with heap := (s.heap.push { cls := .type "slice", data := .fields #[vl, vu, vk] }).push (LO res 0) } F' hz e ⟨rfl, rfl, rfl⟩
theorem pick_cut (its : List Value) (lo' hi' : Option Int) : slicePick its.toArray lo' hi' none = (cutP lo' hi' its).toArray := by
  rw [slicePick_plain]; simp [cutP]
theorem pick_rev (its : List Value) : slicePick its.toArray none none (some (-1)) = its.reverse.toArray := by rw [krv_pick]
end

section
variable {prog : Program} {w : World} {A : Around} {E : Value → Shared → Prop} {s : Shared} {z : Heap} {mg mb : Str → Option Value} {k : Bool} {l : List Nat} {v : Value}
set_option maxHeartbeats 1000000
def Two (k : Bool) (z : Heap) (r : Value) (p : List Nat × List Nat) : Prop := ∃ a x y n, r = .ref a ∧ z.get? a = some (TO [x, y] n) ∧ PV k p.1 x ∧ PV k p.2 y
theorem split_spec {Q : Value → Shared → Prop} (Am : Amb (KK w) mg mb z) (hz : z.StaysIn s.heap) (hA : Rm A 2) (hv : PV k l v) (hn : l.length ≤ 100000)
    (hQ : ∀ z' s' r, Step z s.heap z' s'.heap → Like s s' → Two k z' r (splitP l) → Q r s') : wpAny (model prog w) A (call (.ref 143) [v]) Q E s := by
  refine zDef (binds := [(Str.ofString "p", v)]) Am hz hA rfl rfl rfl rfl ?_
  intro L s₁ E' A' F lk R
  repeat' walk_at "z1"
  refine fspath_spec Am (Fz.keep (by assumption)) R hv ?_
  intro z₂ s₂ st l₂
  have F := Fz.step (by assumption) st
  have Am := Am.mono st.zz
  repeat' walk_at "z1"
  refine getsep_spec Am (Fz.keep (by assumption)) R hv ?_
  intro z₃ s₃ sep st₃ l₃ hsep
  have F := Fz.step (by assumption) st₃
  have Am := Am.mono st₃.zz
  repeat' walk_at "z1"
  refine pM_rfind hv ?_
  refine callWith_method1 ?_
  repeat' walk_at "z1"
  refine pRfind hv hsep ?_
  intro ti s₄ h₄ l₄
  have F := Fz.onto h₄ (by assumption)
  repeat' walk_at "z1"
  refine pSlice (by assumption) hv .none (.int _ _) (by omega) ?_
  intro hd s₅ F₅ l₅ hhd
  repeat' walk_at "z1"
  refine pSlice (by assumption) hv (.int _ _) .none (by omega) ?_
  intro tl s₆ F₆ l₆ htl
  have e0 : (lastIx l : Int) - 1 + 1 = (lastIx l : Int) := by omega
  rw [e0, cutP_to] at hhd
  rw [e0, cutP_from] at htl
  repeat' walk_at "z1"
  refine zTup (by assumption) (by walk_at "zsz") ?_
  intro tb z₇ s₇ F₇ hz₇ htb l₇
  have Am := Am.mono hz₇
  refine zUnpackItems F₇ htb R.handled rfl ?_
  intro s₈ F₈ l₈
  refine assignInOrder_cons ?_
  have hlh : (l.take (lastIx l)).length ≤ 100000 := by simp; omega
  repeat' walk_at "z1"
  refine pTruth hhd (by omega) ?_
  intro s₉ h₉ l₉
  have F := Fz.onto h₉ (by assumption)
  repeat' walk_at "z1"
  generalize hgh : l.take (lastIx l) = gh at *
  have hsp1 : (splitP l).1 = headOf gh := by rw [← hgh]; rfl
  have hsp2 : (splitP l).2 = l.drop (lastIx l) := rfl
  refine iteB (fun h1 => ?_) (fun h1 => ?_)
  · repeat' walk_at "z1"
    refine pLen hhd (by omega) ?_
    intro tn s₁₀ h₁₀ l₁₀
    have F := Fz.onto h₁₀ (by assumption)
    repeat' walk_at "z1"
    refine pMul hsep (by omega) ?_
    intro ru s₁₁ h₁₁ l₁₁ hru
    have F := Fz.onto h₁₁ (by assumption)
    repeat' walk_at "z1"
    refine pNe R hhd hru ?_
    repeat' walk_at "z1"
    refine iteB (fun h2 => ?_) (fun h2 => ?_)
    · have h2 : ¬ gh = List.replicate gh.length 47 := by simpa using h2
      repeat' walk_at "z1"
      refine pM_rstrip hhd ?_
      refine callWith_method1 ?_
      repeat' walk_at "z1"
      refine pRstrip hhd hsep (by omega) ?_
      intro hd' s₁₂ h₁₂ l₁₂ hhd'
      have F := Fz.onto h₁₂ (by assumption)
      repeat' walk_at "z1"
      refine zTup (by assumption) (by walk_at "zsz") ?_
      intro tb' z₁₃ s₁₃ F₁₃ hz₁₃ htb' l₁₃
      repeat' walk_at "z1"
      refine hQ _ _ _ F₁₃.done (by walk_at "like") ⟨tb', _, _, _, rfl, htb', ?_, ?_⟩
      · rw [hsp1, headOf, if_neg h2]; exact hhd'
      · exact htl
    · have h2 : gh = List.replicate gh.length 47 := by simpa using h2
      repeat' walk_at "z1"
      refine zTup (by assumption) (by walk_at "zsz") ?_
      intro tb' z₁₃ s₁₃ F₁₃ hz₁₃ htb' l₁₃
      repeat' walk_at "z1"
      refine hQ _ _ _ F₁₃.done (by walk_at "like") ⟨tb', _, _, _, rfl, htb', ?_, ?_⟩
      · rw [hsp1, headOf, if_pos h2]; exact hhd
      · exact htl
  · have h1 : gh = [] := by simpa using h1
    repeat' walk_at "z1"
    refine zTup (by assumption) (by walk_at "zsz") ?_
    intro tb' z₁₃ s₁₃ F₁₃ hz₁₃ htb' l₁₃
    repeat' walk_at "z1"
    refine hQ _ _ _ F₁₃.done (by walk_at "like") ⟨tb', _, _, _, rfl, htb', ?_, ?_⟩
    · rw [hsp1, headOf, if_pos (by rw [h1]; rfl)]; exact hhd
    · exact htl
end

section
variable {prog : Program} {w : World} {A : Around} {E : Value → Shared → Prop} {s : Shared} {env : Env} {lo : Nat} {z₀ hc z : Heap} {L : Addr} {m mg mb : Str → Option Value} {ms : List (Addr × Obj)} {K : Frag}
theorem zDefV {f : Addr} {n : Nat} {args rest : List Value} {name qual : Str} {params : Arguments} {body : List Stmt} {scope : Scope} {dV kV doc pm cdv ct oc : Value} {an od : Option Addr} {osl : Array (Option Value)} {binds : Value → List (Str × Value)} {Q : Value → Shared → Prop}
    (Am : Amb K mg mb z) (hz : z.StaysIn s.heap) (hA : Rm A (n + 1))
    (ho : K.lookup f = some ⟨oc, od, .func (fnOf name qual params body scope dV kV doc pm an cdv ct), osl⟩) (hcd : codeIn K cdv qual = true) (hsz : rest.length ≤ sizeLine)
    (hbind : bindArgs (fnOf name qual params body scope dV kV doc pm an cdv ct) ⟨args, []⟩ = (newTuple rest >>= fun t => pure (binds t)))
    (hloc : ∀ t, ((binds t).all fun x => decide (scope.names.lookup x.1 = some .local)) = true)
    (h : ∀ T z₁ L s₁ E' A', Fz s.heap.objs.size z s.heap z₁ L (fun y => (binds (.ref T)).reverse.lookup y) [] s₁.heap → z.StaysIn z₁ → z₁.get? T = some (TO rest 0) → Like s s₁ → Rm A' n →
      wpAny (model prog w) A' (execs body (envOf qual scope L f cdv)) (fun fl s' => Q (match fl with | .ret v => v | _ => .none) s') E' s₁)
    (hco : scope.isCoroutine = false := by rfl) (hgen : scope.isGenerator = false := by rfl) (hk : scope.kind = .function := by rfl)
    (hcell : ∀ x ∈ scope.names, x.2 ≠ .cell := by decide) : wpAny (model prog w) A (call (.ref f) args) Q E s := by
  refine wpAny_call (codeAny_call_function (fd := fnOf name qual params body scope dV kV doc pm an cdv ct) (body := body) hA.room (hz _ _ (Am.kin _ _ ho)) rfl hco hgen rfl ((codeRec_of Am.kin hcd).keeps hz) ?_)
  rw [hbind]
  refine wpAny_bind (wpAny_newObj_type ?_ (by show rest.toArray.size ≤ sizeLine; rw [List.size_toArray]; exact hsz))
  refine wpAny_pure ?_
  have st := Step.push hz (TO rest 0)
  have hlim : (s.heap.push (TO rest 0)).NoLimit := Am.lim.keeps (stays_trans hz (push_stays _ _))
  refine wpAny_newFunctionEnv hcell (locs (hloc _)) (fun h₀ hns₀ hsb₀ => ⟨hlim.fresh _ hsb₀, codeAny_func ?_⟩) hk
  have hk₀ : (s.heap.push (TO rest 0)).StaysIn h₀ := fun b o e => hsb₀.extBut b o (Nat.ne_of_lt (Heap.lt_size e)) (Heap.get?_push_of_some _ e)
  have F : Fz s.heap.objs.size z s.heap (Mine.cut z s.heap (s.heap.push (TO rest 0))) (s.heap.push (TO rest 0)).objs.size (fun y => (binds (.ref s.heap.objs.size)).reverse.lookup y) [] h₀ :=
    ⟨hns₀, stays_trans st.zh hk₀, stays_trans st.hh hk₀, Nat.le_trans st.sz (Nat.le_of_lt hns₀.lt), st.zz, st.new, st.zh.fresh, get_none_ge st.sz, (fun _ hp => by cases hp), List.nodup_nil⟩
  exact wpAny_mono (h _ _ _ _ _ _ F st.zz (cut_new (Nat.le_refl _) (Heap.get?_push_size _ rfl)) ⟨rfl, rfl, rfl⟩ (hA.deeper _)) (fun fl s' q => q) fun _ _ y => y

theorem zIterT {l : Addr} {its : List Value} {k : Nat} {Q : Value → Shared → Prop} (F : Fz lo z₀ hc z L m ms s.heap) (hl : z.get? l = some (TO its k)) (hh : A.handled = none)
    (h : ∀ I o s', Walks prog w A I [I, l] [I] its.length (fun i v => its[i]? = some v) (fun i h => h.IsTupleIter I l i ∧ h.IsTuple l its.toArray) → Own I [I, l] [I] (fun i h => h.IsTupleIter I l i ∧ h.IsTuple l its.toArray) z →
      Fz lo z₀ hc z L m ((I, o) :: ms) s'.heap → (s'.heap.IsTupleIter I l 0 ∧ s'.heap.IsTuple l its.toArray) → Like s s' → Q (.ref I) s') : wpAny (model prog w) A (pyIter (.ref l)) Q E s := by
  have hL : s.heap.IsTuple l its.toArray := ⟨_, F.keep _ _ hl, rfl, k, rfl⟩
  refine wpAny_pyIter_tuple hL ?_
  have F' := F.pushMut { cls := .type "tuple_iterator", data := .fields #[.ref l, .int 0 0] }
  have hne : l ≠ s.heap.objs.size := ne_of_get hl F.fresh
  have W := Walks.tuple (prog := prog) (w := w) (A := A) hh s.heap.objs.size l hne its.toArray
  simp only [List.size_toArray, List.getElem?_toArray] at W
  refine h _ _ { s with heap := s.heap.push { cls := .type "tuple_iterator", data := .fields #[.ref l, .int 0 0] } } W ⟨by simp, ?_, ?_⟩ F' ⟨⟨_, Heap.get?_push_size _ rfl, rfl, rfl⟩, hL.at fun o e => Heap.get?_push_of_some _ e⟩ ⟨rfl, rfl, rfl⟩
  · intro b hb
    simp only [List.mem_cons, List.not_mem_nil, or_false] at hb
    exact hb.imp id fun e => ⟨_, e ▸ hl⟩
  · rintro i h ⟨⟨o, ho, _⟩, _⟩; exact ⟨o, ho⟩

theorem zForT {x : Str} {px : Pos} {body : List Stmt} {l : Addr} {its : List Value} {k : Nat} {Q : Flow → Shared → Prop} (hh : A.handled = none) (F : Fz lo z₀ hc z L m ms s.heap) (hl : z.get? l = some (TO its k))
    (J : Nat → Heap → (Str → Option Value) → List (Addr × Obj) → Prop) (h0 : J 0 z m ms)
    (turn : ∀ I i v z' m' ms' o' s' E', i < its.length → its[i]? = some v → z.StaysIn z' → J i z' m' ms' → Fz lo z₀ hc z' L (upd m' x v) ((I, o') :: ms') s'.heap → Like s s' →
      wpAny (model prog w) A (execs body env) (fun f s'' => (f = .next ∨ f = .cont) ∧ ∃ z'' m'' ms'', Fz lo z₀ hc z'' L m'' ((I, o') :: ms'') s''.heap ∧ z'.StaysIn z'' ∧ J (i + 1) z'' m'' ms'' ∧ Like s s'') E' s')
    (done : ∀ z' m' ms' s', z.StaysIn z' → J its.length z' m' ms' → Fz lo z₀ hc z' L m' ms' s'.heap → Like s s' → Q .next s')
    (hL : env.locals = L := by rfl) (hx : env.kindOf x = some .local := by rfl) (hp : (env.scope.kind == .class || (env.scope.kind == .module && env.locals != env.globals)) = false := by rfl)
    (ht : ∀ I v, letOwnedTupleGo (.Name x px) (.ref I) v = pure () := by intro _ _; rfl) :
    wpAny (model prog w) A (pyIter (.ref l)) (fun it s₂ => codeAny (model prog w) A (.forLoop (.Name x px) it body [] env) (fun r s' => match r with | .ok f => Q f s' | .error e => cameBackBy (model prog w) A env E e s') s₂) E s := by
  refine zIterT F hl hh fun I o s' W O F' st lk => ?_
  refine zForLoop W O F' st J h0 (fun i v z' m' ms' o' s'' E' hi hP hz hJ F'' l'' => ?_) (fun z' m' ms' s'' hz hJ F'' l'' => done z' m' ms' s'' hz hJ F'' (lk.trans l'')) hL hx hp (ht I)
  refine wpAny_mono (turn I i v z' m' ms' o' s'' E' hi hP hz hJ F'' (lk.trans l'')) (fun f s₃ q => ?_) fun _ _ y => y
  obtain ⟨hf, z₃, m₃, ms₃, F₃, hz₃, hJ₃, l₃⟩ := q
  exact ⟨hf, z₃, m₃, ms₃, F₃, hz₃, hJ₃, ⟨l₃.1.trans lk.1.symm, l₃.2.1.trans lk.2.1.symm, l₃.2.2.trans lk.2.2.symm⟩⟩
end

section
variable {prog : Program} {w : World} {A : Around} {E : Value → Shared → Prop} {s : Shared} {z : Heap} {mg mb : Str → Option Value} {k : Bool} {l : List Nat} {v : Value}
set_option maxHeartbeats 1000000
def Three (k : Bool) (z : Heap) (r : Value) (p : List Nat × List Nat) : Prop := ∃ a w x y n, r = .ref a ∧ z.get? a = some (TO [w, x, y] n) ∧ PV k p.1 x ∧ PV k p.2 y
theorem b256_of {l : List Nat} (h : l.all (· < 256) = true) : B256 l := fun c hc => by simpa using List.all_eq_true.mp h c hc
theorem splitroot_spec {Q : Value → Shared → Prop} (Am : Amb (KK w) mg mb z) (hz : z.StaysIn s.heap) (hA : Rm A 2) (hv : PV k l v) (hn : l.length ≤ 100000)
    (hQ : ∀ z' s' r, Step z s.heap z' s'.heap → Like s s' → Three k z' r (rootP l) → Q r s') : wpAny (model prog w) A (call (.ref 150) [v]) Q E s := by
  refine zDef (binds := [(Str.ofString "p", v)]) Am hz hA rfl rfl rfl rfl ?_
  intro L s₁ E' A' F lk R
  repeat' walk_at "z1i"
  refine fspath_spec Am (Fz.keep (by assumption)) R hv ?_
  intro z₂ s₂ st l₂
  have F := Fz.step (by assumption) st
  have Am := Am.mono st.zz
  repeat' walk_at "z1i"
  refine wpAny_mono (Q := fun f s' => f = Flow.next ∧ ∃ sep emp, Fz s.heap.objs.size z s.heap z₂ L (upd (upd (upd (fun y => List.lookup y [(Str.ofString "p", v)].reverse) (Str.ofString "p") v) (Str.ofString "sep") sep) (Str.ofString "empty") emp) [] s'.heap ∧ PV k [47] sep ∧ PV k [] emp ∧ Like s s') ?_ (fun f s' q => ?_) (fun _ _ y => y)
  · repeat' walk_at "z1"
    refine pIsBytes hv ?_
    intro s₃ h₃ l₃
    have F := Fz.onto h₃ (by assumption)
    repeat' walk_at "z1"
    cases k with
    | true =>
      refine iteF ?_
      repeat' walk_at "z1"
      exact ⟨rfl, _, _, by assumption, pv_str b47, pv_str (b256_of rfl), by walk_at "like"⟩
    | false =>
      refine iteT ?_
      repeat' walk_at "z1"
      exact ⟨rfl, _, _, by assumption, pv_byt b47, pv_byt (b256_of rfl), by walk_at "like"⟩
  obtain ⟨rfl, sep, emp, F, hsep, hemp, lk'⟩ := q
  have e1 : cutP none (some 1) l = l.take 1 := cutP_to 1 l
  have e2 : cutP (some 1) (some 2) l = (l.drop 1).take 1 := cutP_both 1 2 l
  have e3 : cutP (some 2) (some 3) l = (l.drop 2).take 1 := cutP_both 2 3 l
  have e4 : cutP none (some 2) l = l.take 2 := cutP_to 2 l
  have e5 : cutP (some 2) none l = l.drop 2 := cutP_from 2 l
  have e6 : cutP (some 1) none l = l.drop 1 := cutP_from 1 l
  repeat' walk_at "z1"
  refine pSlice (by assumption) hv .none (.int _ _) (by omega) ?_
  intro x1 s₅ F₅ l₅ hx1
  rw [e1] at hx1
  repeat' walk_at "z1"
  refine pNe R hx1 hsep ?_
  repeat' walk_at "z1"
  refine iteB (fun h1 => ?_) (fun h1 => ?_)
  · have h1 : l.take 1 ≠ [47] := by simpa using h1
    repeat' walk_at "z1"
    refine zTup (by assumption) (by walk_at "zsz") ?_
    intro tb z₇ s₇ F₇ hz₇ htb l₇
    repeat' walk_at "z1"
    exact hQ _ _ _ F₇.done (by walk_at "like") ⟨tb, _, _, _, _, rfl, htb, by rw [rootP, if_pos h1]; exact hemp, by rw [rootP, if_pos h1]; exact hv⟩
  have h1 : ¬ l.take 1 ≠ [47] := by simpa using h1
  repeat' walk_at "z1"
  refine pSlice (by assumption) hv (.int _ _) (.int _ _) (by omega) ?_
  intro x2 s₆ F₆ l₆ hx2
  rw [e2] at hx2
  repeat' walk_at "z1"
  refine pNe R hx2 hsep ?_
  repeat' walk_at "z1"
  refine iteB (fun h2 => ?_) (fun h2 => ?_)
  · have h2 : (l.drop 1).take 1 ≠ [47] := by simpa using h2
    refine iteT ?_
    repeat' walk_at "z1"
    refine pSlice (by assumption) hv (.int _ _) .none (by omega) ?_
    intro x4 s₈ F₈ l₈ hx4
    rw [e6] at hx4
    repeat' walk_at "z1"
    refine zTup (by assumption) (by walk_at "zsz") ?_
    intro tb z₇ s₇ F₇ hz₇ htb l₇
    repeat' walk_at "z1"
    exact hQ _ _ _ F₇.done (by walk_at "like") ⟨tb, _, _, _, _, rfl, htb, by rw [rootP, if_neg h1, if_pos (.inl h2)]; exact hsep, by rw [rootP, if_neg h1, if_pos (.inl h2)]; exact hx4⟩
  have h2 : ¬ (l.drop 1).take 1 ≠ [47] := by simpa using h2
  repeat' walk_at "z1"
  refine pSlice (by assumption) hv (.int _ _) (.int _ _) (by omega) ?_
  intro x3 s₇ F₇ l₇ hx3
  rw [e3] at hx3
  repeat' walk_at "z1"
  refine pEq R hx3 hsep ?_
  repeat' walk_at "z1"
  refine iteB (fun h3 => ?_) (fun h3 => ?_)
  · have h3 : (l.drop 2).take 1 = [47] := by simpa using h3
    repeat' walk_at "z1"
    refine pSlice (by assumption) hv (.int _ _) .none (by omega) ?_
    intro x4 s₈ F₈ l₈ hx4
    rw [e6] at hx4
    repeat' walk_at "z1"
    refine zTup (by assumption) (by walk_at "zsz") ?_
    intro tb z₇ s₇ F₇ hz₇ htb l₇
    repeat' walk_at "z1"
    exact hQ _ _ _ F₇.done (by walk_at "like") ⟨tb, _, _, _, _, rfl, htb, by rw [rootP, if_neg h1, if_pos (.inr h3)]; exact hsep, by rw [rootP, if_neg h1, if_pos (.inr h3)]; exact hx4⟩
  have h3 : ¬ (l.drop 2).take 1 = [47] := by simpa using h3
  have h4 : ¬ ((l.drop 1).take 1 ≠ [47] ∨ (l.drop 2).take 1 = [47]) := fun q => q.elim h2 h3
  repeat' walk_at "z1"
  refine pSlice (by assumption) hv .none (.int _ _) (by omega) ?_
  intro x4 s₈ F₈ l₈ hx4
  rw [e4] at hx4
  repeat' walk_at "z1"
  refine pSlice (by assumption) hv (.int _ _) .none (by omega) ?_
  intro x5 s₉ F₉ l₉ hx5
  rw [e5] at hx5
  repeat' walk_at "z1"
  refine zTup (by assumption) (by walk_at "zsz") ?_
  intro tb z₇ s₇ F₇ hz₇ htb l₇
  repeat' walk_at "z1"
  exact hQ _ _ _ F₇.done (by walk_at "like") ⟨tb, _, _, _, _, rfl, htb, by rw [rootP, if_neg h1, if_neg h4]; exact hx4, by rw [rootP, if_neg h1, if_neg h4]; exact hx5⟩
end

theorem PV.shape {k : Bool} {l : List Nat} {v : Value} (h : PV k l v) : (∃ x t, v = .str x t) ∨ (∃ x t, v = .bytes x t) := by
  cases k with
  | true => obtain ⟨t, e⟩ := h.str; exact .inl ⟨_, t, e⟩
  | false => obtain ⟨t, e⟩ := h.byt; exact .inr ⟨_, t, e⟩
theorem fold_len (ab : Bool) : ∀ (cs new : List (List Nat)), (cs.foldl (normStep ab) new).length ≤ new.length + cs.length
  | [], new => by simp
  | c :: cs, new => by
    have := fold_len ab cs (normStep ab new c)
    have h1 : (normStep ab new c).length ≤ new.length + 1 := by unfold normStep; split <;> (try split) <;> simp; omega
    simp only [List.foldl_cons, List.length_cons]; omega
theorem fold_mem (ab : Bool) : ∀ (cs new : List (List Nat)) (p : List Nat), p ∈ cs.foldl (normStep ab) new → p ∈ new ∨ p ∈ cs
  | [], new, p, h => .inl h
  | c :: cs, new, p, h => by
    rcases fold_mem ab cs _ p h with h | h
    · unfold normStep at h
      split at h
      · exact .inl h
      · split at h
        · rcases List.mem_append.mp h with h | h
          · exact .inl h
          · right; simp at h; simp [h]
        · exact .inl ((List.dropLast_sublist _).subset h)
    · exact .inr (List.mem_cons_of_mem _ h)
theorem cut_part_len {l p : List Nat} (h : p ∈ cutR l) : p.length ≤ l.length := by
  have h1 := cut_sum l
  have h2 : p.length ≤ ((cutR l).map (·.length)).sum := by
    have : ∀ (L : List Nat), ∀ x ∈ L, x ≤ L.sum := by
      intro L
      induction L with
      | nil => intro x hx; simp at hx
      | cons y L ih => intro x hx; rcases List.mem_cons.mp hx with rfl | hx; simp; have := ih x hx; simp; omega
    exact this _ _ (List.mem_map_of_mem h)
  have h3 : 0 < (cutR l).length := List.length_pos_iff.mpr (cutR_ne l)
  omega
theorem rootP_len (l : List Nat) : (rootP l).1.length ≤ 2 ∧ (rootP l).2.length ≤ l.length := by
  unfold rootP
  split
  · simp
  · split
    · simp
    · simp; omega
theorem paired_snoc {α β : Type} {F : α → β → Prop} {q : β} : ∀ {qs : List β} {vs : List α}, Paired F vs (qs ++ [q]) → ∃ ws x, vs = ws ++ [x] ∧ Paired F ws qs ∧ F x q
  | [], _, .cons h .nil => ⟨[], _, rfl, .nil, h⟩
  | _ :: qs, _, .cons h t => by
    obtain ⟨ws, x, rfl, hw, hx⟩ := paired_snoc t
    exact ⟨_ :: ws, x, rfl, .cons h hw, hx⟩
theorem sum_le (b : Nat) : ∀ (ls : List (List Nat)), (∀ p ∈ ls, p.length ≤ b) → (ls.map (·.length)).sum ≤ ls.length * b
  | [], _ => by simp
  | p :: ls, h => by
    have := sum_le b ls (fun q hq => h q (by simp [hq]))
    have h1 := h p (by simp)
    simp only [List.map_cons, List.sum_cons, List.length_cons, Nat.succ_mul]; omega
section
variable {prog : Program} {w : World} {A : Around} {E : Value → Shared → Prop} {s : Shared} {z : Heap} {mg mb : Str → Option Value} {k : Bool} {l : List Nat} {v : Value}
set_option maxHeartbeats 1000000
theorem normpath_spec {Q : Value → Shared → Prop} (Am : Amb (KK w) mg mb z) (hz : z.StaysIn s.heap) (hA : Rm A 3) (hv : PV k l v) (hn : l.length ≤ 900)
    (hQ : ∀ z' s' r, Step z s.heap z' s'.heap → Like s s' → PV k (normP l) r → Q r s') : wpAny (model prog w) A (call (.ref 157) [v]) Q E s := by
  refine zDef (binds := [(Str.ofString "path", v)]) Am hz hA rfl rfl rfl rfl ?_
  intro L s₁ E' A' F lk R
  repeat' walk_at "z1i"
  refine fspath_spec Am (Fz.keep (by assumption)) (R.le (by omega)) hv ?_
  intro z₂ s₂ st l₂
  have F := Fz.step (by assumption) st
  have Am := Am.mono st.zz
  repeat' walk_at "z1i"
  refine wpAny_mono (Q := fun f s' => f = Flow.next ∧ ∃ sep dot dot2, Fz s.heap.objs.size z s.heap z₂ L (upd (upd (upd (upd (fun y => List.lookup y [(Str.ofString "path", v)].reverse) (Str.ofString "path") v) (Str.ofString "sep") sep) (Str.ofString "dot") dot) (Str.ofString "dotdot") dot2) [] s'.heap ∧ PV k [47] sep ∧ PV k [46] dot ∧ PV k dd dot2 ∧ Like s s') ?_ (fun f s' q => ?_) (fun _ _ y => y)
  · repeat' walk_at "z1"
    refine pIsBytes hv ?_
    intro s₃ h₃ l₃
    have F := Fz.onto h₃ (by assumption)
    repeat' walk_at "z1"
    cases k with
    | true =>
      refine iteF ?_
      repeat' walk_at "z1"
      exact ⟨rfl, _, _, _, by assumption, pv_str b47, pv_str (b256_of rfl), pv_str (b256_of rfl), by walk_at "like"⟩
    | false =>
      refine iteT ?_
      repeat' walk_at "z1"
      exact ⟨rfl, _, _, _, by assumption, pv_byt b47, pv_byt (b256_of rfl), pv_byt (b256_of rfl), by walk_at "like"⟩
  obtain ⟨rfl, sep, dot, dot2, F, hsep, hdot, hdot2, lk'⟩ := q
  repeat' walk_at "z1"
  refine pTruth hv (by omega) ?_
  intro s₃ h₃ l₃
  have F := Fz.onto h₃ (by assumption)
  repeat' walk_at "z1"
  refine iteB (fun h1 => ?_) (fun h1 => ?_)
  · have h1 : l = [] := by simpa using h1
    repeat' walk_at "z1"
    exact hQ _ _ _ (Fz.done (by assumption)) (by walk_at "like") (by rw [h1, normP, if_pos rfl]; exact hdot)
  have h1 : ¬ l = [] := by simpa using h1
  repeat' walk_at "z1"
  refine splitroot_spec Am (Fz.keep (by assumption)) R hv (by omega) ?_
  intro z₄ s₄ tr st₄ l₄ htr
  have F := Fz.step (by assumption) st₄
  have Am := Am.mono st₄.zz
  obtain ⟨ta, tx, root, rest, tn, rfl, hta, hroot, hrest⟩ := htr
  have hrl := rootP_len l
  refine zAssignT F hta R.handled ?_
  intro s₅ F₅ l₅
  repeat' walk_at "z1"
  refine pM_split hrest ?_
  refine callWith_method1 ?_
  repeat' walk_at "z1"
  refine pSplit (by assumption) hrest hsep (by omega) ?_
  intro D z₆ s₆ F₆ hz₆ hD l₆
  have Am := Am.mono hz₆
  obtain ⟨ca, its, kk, hcaE, hca, hp⟩ := hD
  cases hcaE
  repeat' walk_at "z1"
  refine zNewM (by assumption) (by walk_at "zsz") ?_
  intro N s₇ F₇ l₇
  repeat' walk_at "z1"
  generalize hcs : cut47 (rootP l).2 = cs at *
  obtain ⟨ab, hab⟩ : ∃ ab : Bool, ab = decide ((rootP l).1 ≠ []) := ⟨_, rfl⟩
  have hcl : cs.length ≤ 901 := by rw [← hcs]; have := cut_count (rootP l).2; omega
  have hlen : its.length = cs.length := hp.length
  refine zForL R.handled (by assumption) hca
    (fun i z' m' ms' => ∃ vs kk, ms' = [(N, LO vs kk)] ∧ m' (Str.ofString "new_comps") = some (.ref N) ∧ m' (Str.ofString "sep") = some sep ∧ m' (Str.ofString "dot") = some dot ∧ m' (Str.ofString "dotdot") = some dot2 ∧ m' (Str.ofString "initial_slashes") = some root ∧
      Paired (fun v l => PV k l v) vs ((cs.take i).foldl (normStep ab) [])) ⟨[], 0, rfl, by walk_at "mlook", by walk_at "mlook", by walk_at "mlook", by walk_at "mlook", by walk_at "mlook", .nil⟩ ?_ ?_
  · intro I i v z' m' ms' o' s' E' hi hvi hz' hJ F' l'
    obtain ⟨vs, kv, rfl, hm1, hm2, hm3, hm4, hm5, hvs⟩ := hJ
    obtain ⟨c, hc, hcv⟩ := paired_get hp hvi
    have hct : cs.take (i + 1) = cs.take i ++ [c] := by rw [List.take_add_one, hc]; rfl
    have hclen : c.length ≤ 900 := by
      have hmem : c ∈ cut47 (rootP l).2 := by rw [hcs]; exact List.mem_of_getElem? hc
      rw [cut47_eq] at hmem
      have := cut_part_len hmem
      omega
    have hnl := fold_len ab (cs.take i) []
    have hti : (cs.take i).length ≤ 901 := by simp; omega
    generalize hnw : (cs.take i).foldl (normStep ab) [] = nw at *
    have hstep : (cs.take (i + 1)).foldl (normStep ab) [] = normStep ab nw c := by rw [hct, List.foldl_append, hnw]; rfl
    have hvl : vs.length = nw.length := hvs.length
    rw [hstep]
    have hnl : vs.length ≤ 901 := by rw [hvl]; simp at hnl; omega
    repeat' walk_at "z1"
    refine pTruth hcv (by omega) ?_
    intro s₈ h₈ l₈
    have F := Fz.onto h₈ (by assumption)
    have Am := Am.mono hz'
    refine iteB (fun h1 => ?_) (fun h1 => ?_)
    · have h1 : c = [] := by simpa using h1
      refine iteT ?_
      repeat' walk_at "z1"
      refine ⟨.inr rfl, _, _, _, by assumption, stays_refl _, ⟨vs, kv, rfl, by walk_at "mlook", by walk_at "mlook", by walk_at "mlook", by walk_at "mlook", by walk_at "mlook", ?_⟩, by walk_at "like"⟩
      rw [normStep, if_pos (.inl h1)]; exact hvs
    have h1 : ¬ c = [] := by simpa using h1
    repeat' walk_at "z1"
    refine pEq R hcv hdot ?_
    repeat' walk_at "z1i"
    refine iteB (fun h2 => ?_) (fun h2 => ?_)
    · have h2 : c = [46] := by simpa using h2
      repeat' walk_at "z1"
      refine ⟨.inr rfl, _, _, _, by assumption, stays_refl _, ⟨vs, kv, rfl, by walk_at "mlook", by walk_at "mlook", by walk_at "mlook", by walk_at "mlook", by walk_at "mlook", ?_⟩, by walk_at "like"⟩
      rw [normStep, if_pos (.inr h2)]; exact hvs
    have h2 : ¬ c = [46] := by simpa using h2
    have h12 : ¬ (c = [] ∨ c = [46]) := fun q => q.elim h1 h2
    repeat' walk_at "z1i"
    refine wpAny_If ?_
    refine wpAny_mono (Q := fun b s' => b = decide (c ≠ dd ∨ (ab = false ∧ nw = []) ∨ nw.getLast? = some dd) ∧ Fz s.heap.objs.size z s.heap z' L (upd m' (Str.ofString "comp") v) [(I, o'), (N, LO vs kv)] s'.heap ∧ Like s₈ s') ?_ (fun b s₉ q => ?_) (fun _ _ y => y)
    · repeat' walk_at "z1"
      refine pNe R hcv hdot2 ?_
      repeat' walk_at "z1"
      refine iteB (fun h3 => ?_) (fun h3 => ?_)
      · have h3 : c ≠ dd := by simpa using h3
        exact ⟨by simp [h3], by assumption, by walk_at "like"⟩
      have h3 : c = dd := by simpa using h3
      repeat' walk_at "z1"
      refine pTruth hroot (by omega) ?_
      intro s₁₀ h₁₀ l₁₀
      have F := Fz.onto h₁₀ (by assumption)
      repeat' walk_at "z1"
      refine iteB (fun h4 => ?_) (fun h4 => ?_)
      · have h4 : ab = false := by rw [hab]; simpa using h4
        repeat' walk_at "z1"
        refine zTruthL ((F.mu (N, LO vs kv) (by simp)).1) (by omega) ?_
        intro s₁₂ h₁₂ l₁₂
        have F := Fz.onto h₁₂ (by assumption)
        repeat' walk_at "z1"
        refine iteB (fun h5 => ?_) (fun h5 => ?_)
        · have h5 : vs = [] := by simpa using h5
          have h5' : nw = [] := List.length_eq_zero_iff.mp (by rw [← hvl, h5]; rfl)
          repeat' walk_at "z1"
          refine ⟨?_, by assumption, by walk_at "like"⟩
          simp [h4, h5']
        repeat' walk_at "z1"
        refine zTruthL ((Fz.mu (by assumption) (N, LO vs kv) (by simp)).1) (by omega) ?_
        intro s₁₁ h₁₁ l₁₁
        have F := Fz.onto h₁₁ (by assumption)
        repeat' walk_at "z1"
        refine iteB (fun h6 => ?_) (fun h6 => ?_)
        · have h6 : vs ≠ [] := by simpa using h6
          have h6' : nw ≠ [] := fun e => h6 (List.length_eq_zero_iff.mp (by rw [hvl, e]; rfl))
          obtain ⟨qs, q, rfl⟩ : ∃ qs q, nw = qs ++ [q] := ⟨nw.dropLast, nw.getLast h6', (List.dropLast_concat_getLast h6').symm⟩
          obtain ⟨ws, x, rfl, hws, hx⟩ := paired_snoc hvs
          repeat' walk_at "z1"
          refine zLast (F.mu (N, LO (ws ++ [x]) kv) (by simp)).1 (by simp at hnl; omega) ?_
          repeat' walk_at "z1"
          refine pEq R hx hdot2 ?_
          repeat' walk_at "z1"
          try (refine iteB (fun h7 => ?_) (fun h7 => ?_))
          all_goals (repeat' walk_at "z1")
          all_goals (refine ⟨?_, by assumption, by walk_at "like"⟩)
          all_goals (simp_all)
        · have h6 : vs = [] := by simpa using h6
          have h6' : nw = [] := List.length_eq_zero_iff.mp (by rw [← hvl, h6]; rfl)
          repeat' walk_at "z1"
          refine ⟨?_, by assumption, by walk_at "like"⟩
          simp_all
      have h4 : ab = true := by rw [hab]; simpa using h4
      repeat' walk_at "z1"
      refine zTruthL ((Fz.mu (by assumption) (N, LO vs kv) (by simp)).1) (by omega) ?_
      intro s₁₁ h₁₁ l₁₁
      have F := Fz.onto h₁₁ (by assumption)
      repeat' walk_at "z1"
      refine iteB (fun h6 => ?_) (fun h6 => ?_)
      · have h6 : vs ≠ [] := by simpa using h6
        have h6' : nw ≠ [] := fun e => h6 (List.length_eq_zero_iff.mp (by rw [hvl, e]; rfl))
        obtain ⟨qs, q, rfl⟩ : ∃ qs q, nw = qs ++ [q] := ⟨nw.dropLast, nw.getLast h6', (List.dropLast_concat_getLast h6').symm⟩
        obtain ⟨ws, x, rfl, hws, hx⟩ := paired_snoc hvs
        repeat' walk_at "z1"
        refine zLast (F.mu (N, LO (ws ++ [x]) kv) (by simp)).1 (by simp at hnl; omega) ?_
        repeat' walk_at "z1"
        refine pEq R hx hdot2 ?_
        repeat' walk_at "z1"
        try (refine iteB (fun h7 => ?_) (fun h7 => ?_))
        all_goals (repeat' walk_at "z1")
        all_goals (refine ⟨?_, by assumption, by walk_at "like"⟩)
        all_goals (simp_all)
      · have h6 : vs = [] := by simpa using h6
        have h6' : nw = [] := List.length_eq_zero_iff.mp (by rw [← hvl, h6]; rfl)
        repeat' walk_at "z1"
        refine ⟨?_, by assumption, by walk_at "like"⟩
        simp_all
    obtain ⟨rfl, F, lk9⟩ := q
    refine iteB (fun h3 => ?_) (fun h3 => ?_)
    · have h3 : c ≠ dd ∨ (ab = false ∧ nw = []) ∨ nw.getLast? = some dd := of_decide_eq_true h3
      repeat' walk_at "z1"
      refine zMethL PySem.F.slot_list_append PySem.F.type_list_append (F.mu (N, LO vs kv) (by simp)).1 ?_
      refine callWith_method1 ?_
      repeat' walk_at "z1"
      refine zAppend (pre := [(I, o')]) (by assumption) (by rw [sizeLine_eq]; omega) ?_
      intro k' s₅ F₅ _ l₅
      repeat' walk_at "z1"
      refine ⟨.inl rfl, _, _, _, F₅, stays_refl _, ⟨vs ++ [v], k', rfl, by walk_at "mlook", by walk_at "mlook", by walk_at "mlook", by walk_at "mlook", by walk_at "mlook", ?_⟩, by walk_at "like"⟩
      rw [normStep, if_neg h12, if_pos h3]
      exact paired_append hvs (.cons hcv .nil)
    have h3 : ¬ (c ≠ dd ∨ (ab = false ∧ nw = []) ∨ nw.getLast? = some dd) := of_decide_eq_false h3
    have hns : normStep ab nw c = nw.dropLast := by rw [normStep, if_neg h12, if_neg h3]
    repeat' walk_at "z1"
    refine zTruthL ((F.mu (N, LO vs kv) (by simp)).1) (by omega) ?_
    intro s₁₁ h₁₁ l₁₁
    have F := Fz.onto h₁₁ (by assumption)
    repeat' walk_at "z1"
    refine iteB (fun h6 => ?_) (fun h6 => ?_)
    · have h6 : vs ≠ [] := by simpa using h6
      have h6' : nw ≠ [] := fun e => h6 (List.length_eq_zero_iff.mp (by rw [hvl, e]; rfl))
      obtain ⟨qs, q, rfl⟩ : ∃ qs q, nw = qs ++ [q] := ⟨nw.dropLast, nw.getLast h6', (List.dropLast_concat_getLast h6').symm⟩
      obtain ⟨ws, x, rfl, hws, hx⟩ := paired_snoc hvs
      repeat' walk_at "z1"
      refine zMethL PySem.F.slot_list_pop PySem.F.type_list_pop (F.mu (N, LO (ws ++ [x]) kv) (by simp)).1 ?_
      refine zCallB0 ?_
      refine zPop (pre := [(I, o')]) (by assumption) (by simp at hnl; omega) ?_
      intro k' s₅ F₅ l₅
      obtain hxs := hx.shape
      rcases hxs with ⟨xx, tt, rfl⟩ | ⟨xx, tt, rfl⟩
      all_goals (repeat' walk_at "z1")
      all_goals refine ⟨.inl rfl, _, _, _, F₅, stays_refl _, ⟨ws, k', rfl, by walk_at "mlook", by walk_at "mlook", by walk_at "mlook", by walk_at "mlook", by walk_at "mlook", ?_⟩, by walk_at "like"⟩
      all_goals (rw [hns, List.dropLast_concat]; exact hws)
    · have h6 : vs = [] := by simpa using h6
      have h6' : nw = [] := List.length_eq_zero_iff.mp (by rw [← hvl, h6]; rfl)
      repeat' walk_at "z1"
      refine ⟨.inl rfl, _, _, _, by assumption, stays_refl _, ⟨vs, kv, rfl, by walk_at "mlook", by walk_at "mlook", by walk_at "mlook", by walk_at "mlook", by walk_at "mlook", ?_⟩, by walk_at "like"⟩
      rw [hns, h6', h6]; exact .nil
  · intro z' m' ms' s' hz' hJ F' l'
    obtain ⟨vs, kv, rfl, hm1, hm2, hm3, hm4, hm5, hvs⟩ := hJ
    have Am := Am.mono hz'
    repeat' walk_at "z1"
    refine pM_join hsep ?_
    refine callWith_method1 ?_
    repeat' walk_at "z1"
    rw [hlen, List.take_length] at hvs
    have hfl := fold_len ab cs []
    have hfm := fold_mem ab cs []
    generalize hnw : cs.foldl (normStep ab) [] = nw at *
    have hsum := sum_le 900 nw (fun p hp => by
      rcases hfm p hp with h | h
      · simp at h
      · rw [← hcs, cut47_eq] at h
        have := cut_part_len h
        omega)
    simp only [List.length_nil, Nat.zero_add] at hfl
    have hjl := BM.jn_length nw
    refine pJoin hsep (Fz.mu (by assumption) (N, LO vs kv) (by simp)).1 hvs (by omega) ?_
    intro jr s₈ h₈ l₈ hjr
    have F := Fz.onto h₈ (by assumption)
    repeat' walk_at "z1"
    refine pAdd hroot hjr (by omega) ?_
    intro ar s₉ h₉ l₉ har
    have F := Fz.onto h₉ (by assumption)
    have hres : normP l = orDot ((rootP l).1 ++ jn [47] nw) := by
      unfold normP
      rw [if_neg h1, hcs, ← hab, hnw]
    repeat' walk_at "z1"
    refine pTruth har (by simp; omega) ?_
    intro s₁₀ h₁₀ l₁₀
    have F := Fz.onto h₁₀ (by assumption)
    refine iteB (fun h2 => ?_) (fun h2 => ?_)
    · have h2 : ¬ (rootP l).1 ++ jn [47] nw = [] := of_decide_eq_true h2
      exact hQ _ _ _ F.drop.done (by walk_at "like") (by rw [hres, orDot, if_neg h2]; exact har)
    · have h2 : (rootP l).1 ++ jn [47] nw = [] := by simpa using h2
      repeat' walk_at "z1"
      exact hQ _ _ _ F.drop.done (by walk_at "like") (by rw [hres, orDot, if_pos h2]; exact hdot)
end

theorem joinStep_len (a b : List Nat) : (joinStep a b).length ≤ a.length + b.length + 1 := by
  unfold joinStep; split
  · omega
  · split <;> simp <;> omega
theorem joinFold_len : ∀ (ps : List (List Nat)) (a : List Nat), (ps.foldl joinStep a).length ≤ a.length + (ps.map (·.length)).sum + ps.length
  | [], a => by simp
  | p :: ps, a => by
    have h1 := joinFold_len ps (joinStep a p)
    have h2 := joinStep_len a p
    simp only [List.foldl_cons, List.map_cons, List.sum_cons, List.length_cons]; omega
theorem sum_take_le : ∀ (ps : List (List Nat)) (i : Nat), ((ps.take i).map (·.length)).sum ≤ (ps.map (·.length)).sum
  | [], i => by simp
  | p :: ps, 0 => by simp
  | p :: ps, i + 1 => by
    have := sum_take_le ps i
    rw [List.take_succ_cons, List.map_cons, List.map_cons, List.sum_cons, List.sum_cons]; omega
theorem noI_bytes_add : typeLookup (.type "bytes") (dunderI "add") = pure none := by rw [typeLookup_type, builtinLookup_eq_fast]; kernel_rfl
theorem iadd_bytes {prog : Program} {w : World} {A : Around} {E : Value → Shared → Prop} {s : Shared} {b c : Array UInt8} {t u : Tok} {Q : Value → Shared → Prop} (hsz : b.size + c.size ≤ 16777216) (h : ∀ t' k, Q (.bytes (b ++ c) t') { s with toks := k }) : wpAny (model prog w) A (inplaceOp .Add (.bytes b t) (.bytes c u)) Q E s := by
  refine iconcat_gives (typeIs_bytes s b t) (typeIs_bytes s c u) noI_bytes_add KBy.noFill_bytes_add KBy.seq_bytes_add FB.slot_bytes_add FB.entry_bytes_add (FB.args_bytes_add_2 _ _) (KBy.gives_bytes_add (KBy.tooLong_not hsz)) ?_
  by_cases hb : b.isEmpty = true
  · rw [if_pos hb]
    have e : b = #[] := Array.isEmpty_iff.1 hb
    have h' := h u s.toks
    rw [e, Array.empty_append] at h'
    exact h'
  · rw [if_neg hb]
    by_cases hc : c.isEmpty = true
    · rw [if_pos hc]
      have e : c = #[] := Array.isEmpty_iff.1 hc
      have h' := h t s.toks
      rw [e, Array.append_empty] at h'
      exact h'
    · rw [if_neg hc]
      exact ⟨by rw [Array.size_append, sizeLine_eq]; exact hsz, h s.toks (s.toks + 1)⟩
section
variable {prog : Program} {w : World} {A : Around} {E : Value → Shared → Prop} {s : Shared} {z : Heap} {mg mb : Str → Option Value} {k : Bool} {v : Value}
set_option maxHeartbeats 1000000
theorem pIadd {a b : List Nat} {v u : Value} {Q : Value → Shared → Prop} (hv : PV k a v) (hv' : PV k b u) (hn : a.length + b.length ≤ 1000000) (h : ∀ r s', s'.heap = s.heap → Like s s' → PV k (a ++ b) r → Q r s') : wpAny (model prog w) A (inplaceOp .Add v u) Q E s := by
  cases k with
  | true =>
    obtain ⟨t, rfl⟩ := hv.str; obtain ⟨t', rfl⟩ := hv'.str
    refine zIaddS (M := prog) rfl rfl (by rw [sizeLine_eq]; omega) fun t'' tk => ?_
    exact h _ { s with toks := tk } rfl ⟨rfl, rfl, rfl⟩ (pv_str (b256_append hv.1 hv'.1))
  | false =>
    obtain ⟨t, rfl⟩ := hv.byt; obtain ⟨t', rfl⟩ := hv'.byt
    refine iadd_bytes (by rw [bA_size, bA_size]; omega) fun t'' tk => ?_
    rw [bA_append]; exact h _ { s with toks := tk } rfl ⟨rfl, rfl, rfl⟩ (pv_byt (b256_append hv.1 hv'.1))
theorem join_spec {a : List Nat} {vps : List Value} {ps : List (List Nat)} {Q : Value → Shared → Prop} (Am : Amb (KK w) mg mb z) (hz : z.StaysIn s.heap) (hA : Rm A 2) (hv : PV k a v) (hps : Paired (fun v l => PV k l v) vps ps)
    (hn : ps.length ≤ 3) (hs : a.length + (ps.map (·.length)).sum ≤ 800)
    (hQ : ∀ z' s' r, Step z s.heap z' s'.heap → Like s s' → PV k (joinP (a :: ps)) r → Q r s') : wpAny (model prog w) A (call (.ref 136) (v :: vps)) Q E s := by
  have hvl : vps.length = ps.length := hps.length
  refine zDefV (rest := vps) (binds := fun t => [(Str.ofString "a", v), (Str.ofString "p", t)]) Am hz hA rfl rfl (by rw [sizeLine_eq]; omega) ?_ (fun _ => rfl) ?_
  · rcases vps with _ | ⟨x, _ | ⟨y, _ | ⟨q, _ | ⟨r, t⟩⟩⟩⟩
    · rfl
    · rfl
    · rfl
    · rfl
    · simp at hvl; omega
  intro T z₁ L s₁ E' A' F hz₁ hT lk R
  have Am := Am.mono hz₁
  repeat' walk_at "z1"
  refine fspath_spec Am (Fz.keep (by assumption)) R hv ?_
  intro z₂ s₂ st l₂
  have F := Fz.step (by assumption) st
  have Am := Am.mono st.zz
  repeat' walk_at "z1"
  refine getsep_spec Am (Fz.keep (by assumption)) R hv ?_
  intro z₃ s₃ sep st₃ l₃ hsep
  have F := Fz.step (by assumption) st₃
  have Am := Am.mono st₃.zz
  repeat' walk_at "z1"
  refine wpAny_Try_except ?_
  repeat' walk_at "z1"
  refine zForT R.handled (by assumption) (st₃.zz _ _ (st.zz _ _ hT))
    (fun i z' m' ms' => ms' = [] ∧ m' (Str.ofString "sep") = some sep ∧ ∃ path, m' (Str.ofString "path") = some path ∧ PV k ((ps.take i).foldl joinStep a) path) ⟨rfl, by walk_at "mlook", _, upd_same, hv⟩ ?_ ?_
  · intro I i b z' m' ms' o' s' E' hi hbi hz' hJ F' l'
    obtain ⟨rfl, hm1, path, hm2, hpath⟩ := hJ
    have Am := Am.mono hz'
    obtain ⟨c, hc, hb⟩ := paired_get hps hbi
    have hct : ps.take (i + 1) = ps.take i ++ [c] := by rw [List.take_add_one, hc]; rfl
    have hfl := joinFold_len (ps.take i) a
    have hst := sum_take_le ps i
    have hst2 := sum_take_le ps (i + 1)
    have htl : (ps.take i).length ≤ 3 := by simp; omega
    rw [hct] at hst2
    simp only [List.map_append, List.map_cons, List.map_nil, List.sum_append, List.sum_cons, List.sum_nil] at hst2
    generalize hpw : (ps.take i).foldl joinStep a = pw at *
    have hstep : (ps.take (i + 1)).foldl joinStep a = joinStep pw c := by rw [hct, List.foldl_append, hpw]; rfl
    rw [hstep]
    repeat' walk_at "z1"
    refine fspath_spec Am (Fz.keep (by assumption)) R hb ?_
    intro z₄ s₄ st₄ l₄
    have F := Fz.step (by assumption) st₄
    repeat' walk_at "z1"
    refine pM_startswith hb ?_
    refine callWith_method1 ?_
    repeat' walk_at "z1"
    refine pStarts hb hsep ?_
    repeat' walk_at "z1"
    have Am := Am.mono st₄.zz
    refine iteB (fun h1 => ?_) (fun h1 => ?_)
    · have h1 : c.head? = some 47 := of_decide_eq_true h1
      refine iteT ?_
      repeat' walk_at "z1"
      refine ⟨.inl rfl, _, _, _, by assumption, st₄.zz, ⟨rfl, by walk_at "mlook", _, upd_same, ?_⟩, by walk_at "like"⟩
      rw [joinStep, if_pos (.inl h1)]; exact hb
    have h1 : ¬ c.head? = some 47 := of_decide_eq_false h1
    repeat' walk_at "z1"
    refine pTruth hpath (by omega) ?_
    intro s₅ h₅ l₅
    have F := Fz.onto h₅ (by assumption)
    repeat' walk_at "z1"
    refine iteB (fun h2 => ?_) (fun h2 => ?_)
    · have h2 : pw = [] := by simpa using h2
      repeat' walk_at "z1"
      refine ⟨.inl rfl, _, _, _, by assumption, st₄.zz, ⟨rfl, by walk_at "mlook", _, upd_same, ?_⟩, by walk_at "like"⟩
      rw [joinStep, if_pos (.inr h2)]; exact hb
    have h2 : ¬ pw = [] := by simpa using h2
    have h12 : ¬ (c.head? = some 47 ∨ pw = []) := fun q => q.elim h1 h2
    repeat' walk_at "z1"
    refine pM_endswith hpath ?_
    refine callWith_method1 ?_
    repeat' walk_at "z1"
    refine pEnds hpath hsep ?_
    repeat' walk_at "z1"
    refine iteB (fun h3 => ?_) (fun h3 => ?_)
    · have h3 : pw.getLast? = some 47 := of_decide_eq_true h3
      repeat' walk_at "z1"
      refine pIadd hpath hb (by omega) ?_
      intro r₆ s₆ h₆ l₆ hr₆
      have F := Fz.onto h₆ (by assumption)
      repeat' walk_at "z1"
      refine ⟨.inl rfl, _, _, _, by assumption, st₄.zz, ⟨rfl, by walk_at "mlook", _, upd_same, ?_⟩, by walk_at "like"⟩
      rw [joinStep, if_neg h12, if_pos h3]; exact hr₆
    have h3 : ¬ pw.getLast? = some 47 := of_decide_eq_false h3
    repeat' walk_at "z1"
    refine pAdd hsep hb (by simp; omega) ?_
    intro r₆ s₆ h₆ l₆ hr₆
    have F := Fz.onto h₆ (by assumption)
    repeat' walk_at "z1"
    refine pIadd hpath hr₆ (by simp; omega) ?_
    intro r₇ s₇ h₇ l₇ hr₇
    have F := Fz.onto h₇ (by assumption)
    repeat' walk_at "z1"
    refine ⟨.inl rfl, _, _, _, by assumption, st₄.zz, ⟨rfl, by walk_at "mlook", _, upd_same, ?_⟩, by walk_at "like"⟩
    rw [joinStep, if_neg h12, if_neg h3]; exact hr₇
  · intro z' m' ms' s' hz' hJ F' l'
    obtain ⟨rfl, hm1, path, hm2, hpath⟩ := hJ
    rw [hvl, List.take_length] at hpath
    repeat' walk_at "z1"
    exact hQ _ _ _ (Fz.done (by assumption)) (by walk_at "like") hpath
end

theorem maxL_eq {ns : List Nat} {M : Nat} (h1 : M ∈ ns) (h2 : ∀ a ∈ ns, a ≤ M) : maxL ns = M := by
  apply Nat.le_antisymm (maxL_le h2)
  have : ∀ (l : List Nat) (a : Nat), a ≤ l.foldl max a ∧ ∀ x ∈ l, x ≤ l.foldl max a := by
    intro l
    induction l with
    | nil => intro a; simp
    | cons y l ih =>
      intro a
      have := ih (max a y)
      rw [List.foldl_cons]
      refine ⟨by omega, fun x hx => ?_⟩
      rcases List.mem_cons.mp hx with rfl | hx
      · omega
      · exact this.2 x hx
  exact (this ns 0).2 M h1
theorem intsAre_of {z : Heap} : ∀ {vs : List Value} {ns : List Nat}, Paired (RNat z) vs ns → IntsAre vs (ns.map fun (n : Nat) => (n : Int))
  | _, _, .nil => .nil
  | _, _, .cons ⟨t, e⟩ r => by subst e; exact .cons _ t (intsAre_of r)
section
variable {prog : Program} {w : World} {A : Around} {E : Value → Shared → Prop} {s : Shared} {env : Env} {lo : Nat} {z₀ hc z : Heap} {L : Addr} {m : Str → Option Value} {ms : List (Addr × Obj)}
theorem Fz.kept {h h' : Heap} (F : Fz lo z₀ hc z L m ms h) (hk : h.StaysIn h') (sz : h.objs.size ≤ h'.objs.size) : Fz lo z₀ hc z L m ms h' :=
  F.step ⟨stays_refl _, hk, stays_trans F.keep hk, sz, fun _ _ e => .inr e⟩
theorem zMaxL {l : Addr} {its : List Value} {k : Nat} {ns : List Nat} {Q : Value → Shared → Prop} (F : Fz lo z₀ hc z L m ms s.heap) (hh : A.handled = none) (hl : z.get? l = some (LO its k)) (hp : Paired (RNat z) its ns) (hne : ns ≠ [])
    (h : ∀ t s', Fz lo z₀ hc z L m ms s'.heap → Like s s' → Q (.int (maxL ns : Nat) t) s') : wpAny (model prog w) A (call (.builtin "max") [.ref l]) Q E s := by
  refine wpAny_sized ?_
  have hi := intsAre_of hp
  have hL : s.heap.IsList l its.toArray := ⟨_, F.keep _ _ hl, rfl, k, rfl⟩
  obtain ⟨xs, e⟩ := hi.allInts.items
  have hns : (ns.map fun (n : Nat) => (n : Int)) = xs.toList.map (·.1) := by
    rw [← hi.numsOf, ← nums_intItems, ← e]
  have hpos : 0 < ns.length := List.length_pos_iff.mpr hne
  have hsz : 0 < xs.size := by
    have := congrArg List.length hns
    simp at this; omega
  rw [e] at hL
  refine max_intList hh hL hsz fun v h' tk hv hk hsz' => ?_
  obtain ⟨t, rfl⟩ := intItems_at hv
  obtain ⟨h1, h2⟩ := argBest_gt (numAt xs) (xs.size - 1)
  have key : numAt xs (argBest (fun i j => decide (numAt xs i > numAt xs j)) (xs.size - 1)) = ((maxL ns : Nat) : Int) := by
    have hm : numAt xs (argBest (fun i j => decide (numAt xs i > numAt xs j)) (xs.size - 1)) ∈ ns.map fun (n : Nat) => (n : Int) := by
      rw [hns, numAt_eq]; exact getD_mem (by rw [List.length_map, Array.length_toList]; omega)
    have hu : ∀ a ∈ ns.map (fun (n : Nat) => (n : Int)), a ≤ numAt xs (argBest (fun i j => decide (numAt xs i > numAt xs j)) (xs.size - 1)) := by
      intro a ha
      rw [hns] at ha
      obtain ⟨j, hj, rfl⟩ := mem_getD ha
      rw [List.length_map, Array.length_toList] at hj
      rw [← numAt_eq]; exact h2 j (by omega)
    obtain ⟨M, hM, e2⟩ := List.mem_map.mp hm
    rw [← e2] at hu ⊢
    rw [maxL_eq hM fun a ha => by have := hu a (List.mem_map_of_mem ha); omega]
  rw [key]
  exact h t { s with heap := h', toks := tk } (F.kept hk hsz') ⟨rfl, rfl, rfl⟩
theorem zMin2 {a b : Nat} {bi : Int} {t u : Tok} {Q : Value → Shared → Prop} (F : Fz lo z₀ hc z L m ms s.heap) (hh : A.handled = none) (hb : bi = (b : Int)) (h : ∀ t s', Fz lo z₀ hc z L m ms s'.heap → Like s s' → Q (.int (min a b : Nat) t) s') :
    wpAny (model prog w) A (call (.builtin "min") [.int (a : Int) t, .int bi u]) Q E s := by
  subst hb
  refine wpAny_sized ?_
  refine min_two_ints hh fun h' tk hk hsz => ?_
  by_cases hlt : (b : Int) < (a : Int)
  · rw [if_pos hlt]
    have := h u { s with heap := h', toks := tk } (F.kept hk hsz) ⟨rfl, rfl, rfl⟩
    rw [Nat.min_eq_right (by omega)] at this; exact this
  · rw [if_neg hlt]
    have := h t { s with heap := h', toks := tk } (F.kept hk hsz) ⟨rfl, rfl, rfl⟩
    rw [Nat.min_eq_left (by omega)] at this; exact this
theorem zRange {n : Nat} {t : Tok} {Q : Value → Shared → Prop} (F : Fz lo z₀ hc z L m ms s.heap)
    (h : ∀ r z' s' t u v, Fz lo z₀ hc z' L m ms s'.heap → z.StaysIn z' → IsRange z' r 0 n 1 t u v → Like s s' → Q (.ref r) s') : wpAny (model prog w) A (call (.type "range") [.int (n : Int) t]) Q E s := by
  refine call_range_1 ?_
  obtain ⟨z', F', hz, e⟩ := F.alloc { cls := .type "range", data := .fields #[.int 0 s.toks, .int n t, .int 1 (s.toks + 1)] }
  exact h _ z' { s with heap := _, toks := s.toks + 1 + 1 } _ _ _ F' hz e ⟨rfl, rfl, rfl⟩
theorem zIterR {r : Addr} {n : Nat} {t u v : Tok} {Q : Value → Shared → Prop} (F : Fz lo z₀ hc z L m ms s.heap) (hr : IsRange z r 0 n 1 t u v) (hn : n ≤ 1000000) (hh : A.handled = none)
    (h : ∀ I o s', Walks prog w A I [I] [I] n (fun i v => ∃ t, v = .int (i : Nat) t) (fun i h => IsRangeIter h I (0 + (i : Nat) * 1) ((n : Int) - (i : Nat)) 1) → Own I [I] [I] (fun i h => IsRangeIter h I (0 + (i : Nat) * 1) ((n : Int) - (i : Nat)) 1) z →
      Fz lo z₀ hc z L m ((I, o) :: ms) s'.heap → IsRangeIter s'.heap I (0 + (0 : Nat) * 1) ((n : Int) - (0 : Nat)) 1 → Like s s' → Q (.ref I) s') : wpAny (model prog w) A (pyIter (.ref r)) Q E s := by
  refine wpAny_pyIter_range (F.keep _ _ hr) (small_one (by omega) (by omega) (by omega) (by omega)) ?_
  have hs : Builtin.Range.rangeSize 0 n 1 = (n : Int) := by
    rw [rangeSize_one]; split <;> omega
  rw [hs]
  have F' := F.pushMut { cls := .type "range_iterator", data := .fields #[rawInt 0, rawInt n, rawInt 1] }
  have W := Walks.range (prog := prog) (w := w) (A := A) hh s.heap.objs.size 0 1 n
  have W' : Walks prog w A s.heap.objs.size [s.heap.objs.size] [s.heap.objs.size] n (fun i v => ∃ t, v = .int (i : Nat) t) (fun i h => IsRangeIter h s.heap.objs.size (0 + (i : Nat) * 1) ((n : Int) - (i : Nat)) 1) := by
    have e : (fun (i : Nat) (v : Value) => ∃ t, v = Value.int (i : Nat) t) = fun (i : Nat) (v : Value) => ∃ t, v = Value.int (0 + (i : Int) * 1) t := by
      funext i v; simp
    rw [e]; exact W
  refine h _ _ { s with heap := s.heap.push { cls := .type "range_iterator", data := .fields #[rawInt 0, rawInt n, rawInt 1] } } W' ⟨by simp, by simp, ?_⟩ F' ?_ ⟨rfl, rfl, rfl⟩
  · intro i h hst; exact ⟨_, hst⟩
  · simpa using Heap.get?_push_size s.heap (o := { cls := .type "range_iterator", data := .fields #[rawInt 0, rawInt n, rawInt 1] }) rfl
theorem zMulL {l : Addr} {items : Array Value} {k : Nat} {x : Int} {u : Tok} {Q : Value → Shared → Prop}
    (hl : s.heap.get? l = some { cls := .type "list", dict := none, data := .seq items k, slots := #[] })
    (hlo : -(2 ^ 63 : Int) ≤ x) (hhi : x < 2 ^ 63) (hsz : items.size * x.toNat ≤ 2 ^ 24)
    (h : Q (.ref s.heap.objs.size) { s with heap := s.heap.push { cls := .type "list", data := .seq (List.foldl (fun x1 x2 => x1 ++ x2) #[] (List.replicate (if items.isEmpty = true then 0 else x.toNat) items)) } }) :
    wpAny (model prog w) A (binaryOp .Mult (.ref l) (.int x u)) Q E s :=
  wpAny_binaryOp_repeat_ref (T := "list") (U := "int") (by decide) ⟨_, hl, rfl⟩ (fun s' => typeIs_int s' x u) noFill_list_mul PySem.F.fills_int_mul PySem.F.slot_int_rmul repeat_list PySem.F.slot_int_index.lookup
    (call_meets PySem.F.slot_int_rmul (typeIs_int s x u) PySem.F.entry_int_rmul (PySem.F.args_int_rmul_2 _ _) (int___rmul___int_list x u l items k)
      ⟨hl, rfl, ⟨_, hl, rfl⟩, call_meets PySem.F.slot_list_mul ⟨_, hl, rfl⟩ PySem.F.entry_list_mul (PySem.F.args_list_mul_2 _ _)
        (AutoListH.list___mul___list_int_3 l items k x u (by simp [Builtin.List.listFitsIndex]; omega) (by omega) (by simp [Builtin.List.listTooLong, sizeLine]; omega))
        ⟨hl, h⟩⟩)
theorem zRep {l : Addr} {x : Value} {k n : Nat} {u : Tok} {Q : Value → Shared → Prop} (F : Fz lo z₀ hc z L m ms s.heap) (hl : s.heap.get? l = some (LO [x] k)) (hn : n ≤ 1000000)
    (h : ∀ D z' s', Fz lo z₀ hc z' L m ms s'.heap → z.StaysIn z' → z'.get? D = some (LO (List.replicate n x) 0) → Like s s' → Q (.ref D) s') : wpAny (model prog w) A (binaryOp .Mult (.ref l) (.int (n : Int) u)) Q E s := by
  have e : List.foldl (fun x1 x2 => x1 ++ x2) #[] (List.replicate (if ([x].toArray : Array Value).isEmpty = true then 0 else (n : Int).toNat) [x].toArray) = (List.replicate n x).toArray := by
    rw [listMul_foldl]; simp
  have es : [x].toArray.size * (n : Int).toNat ≤ 2 ^ 24 := by simp; omega
  refine zMulL (items := [x].toArray) hl (by omega) (by omega) es ?_
  rw [e]
  obtain ⟨z', F', hz, e⟩ := F.alloc (LO (List.replicate n x) 0)
  exact h _ z' { s with heap := s.heap.push (LO (List.replicate n x) 0) } F' hz e ⟨rfl, rfl, rfl⟩
end

def envOfC (qual : Str) (scope : Scope) (L a : Addr) (cd : Value) (cs : List (Str × Addr)) : Env :=
  { scope := scope, locals := L, globals := mainGlobals, cells := cs, qual := qual ++ ".<locals>.", func := some a, code := cd, frame := some L, builtins := builtinsNs }
section
variable {prog : Program} {w : World} {A : Around} {E : Value → Shared → Prop} {s : Shared} {env : Env} {lo : Nat} {z₀ hc z : Heap} {L : Addr} {m mg mb : Str → Option Value} {ms : List (Addr × Obj)} {K : Frag}
theorem zDefC {f : Addr} {n : Nat} {v : Value} {x : Str} {name qual : Str} {params : Arguments} {body : List Stmt} {scope : Scope} {dV kV doc pm cdv ct oc : Value} {an od : Option Addr} {osl : Array (Option Value)} {Q : Value → Shared → Prop}
    (Am : Amb K mg mb z) (hz : z.StaysIn s.heap) (hA : Rm A (n + 1))
    (ho : K.lookup f = some ⟨oc, od, .func (fnOf name qual params body scope dV kV doc pm an cdv ct), osl⟩) (hcd : codeIn K cdv qual = true)
    (hbind : bindArgs (fnOf name qual params body scope dV kV doc pm an cdv ct) ⟨[v], []⟩ = pure [(x, v)])
    (hcells : ∀ k, cellsFrom k scope.names [] = [(x, k)]) (hx : scope.names.lookup x = some .cell)
    (h : ∀ c z₁ L s₁ E' A', Fz s.heap.objs.size z s.heap z₁ L (fun _ => none) [] s₁.heap → z.StaysIn z₁ → z₁.IsCell c (some v) → Like s s₁ → Rm A' n →
      wpAny (model prog w) A' (execs body (envOfC qual scope L f cdv [(x, c)])) (fun fl s' => Q (match fl with | .ret v => v | _ => .none) s') E' s₁)
    (hco : scope.isCoroutine = false := by rfl) (hgen : scope.isGenerator = false := by rfl) (hk : scope.kind = .function := by rfl) : wpAny (model prog w) A (call (.ref f) [v]) Q E s := by
  have hlk : ∀ k : Addr, ([(x, k)] : List (Str × Addr)).lookup x = some k := fun k => by simp
  refine wpAny_call (codeAny_call_cells (fd := fnOf name qual params body scope dV kV doc pm an cdv ct) (body := body) hA.room (hz _ _ (Am.kin _ _ ho)) rfl (Am.lim.keeps hz) ((codeRec_of Am.kin hcd).keeps hz) rfl hbind rfl ?_ ?_ hco hgen hk)
  · intro y hy
    simp only [List.mem_cons, List.not_mem_nil, or_false] at hy
    subst hy
    exact .inr ⟨hx, by rw [hcells]; simp⟩
  · intro s₁ X
    have he : callEnvC (fnOf name qual params body scope dV kV doc pm an cdv ct) s.heap.objs.size f = envOfC qual scope s.heap.objs.size f cdv [(x, s.heap.objs.size + 1)] := by
      unfold callEnvC newEnv envOfC
      dsimp only
      rw [hcells]
    rw [he] at X ⊢
    have hkx : (envOfC qual scope s.heap.objs.size f cdv [(x, s.heap.objs.size + 1)]).kindOf x = some .cell := hx
    have e1 : bindL (envOfC qual scope s.heap.objs.size f cdv [(x, s.heap.objs.size + 1)]).kindOf [(x, v)] (fun _ => none) = fun _ => none := by simp [bindL, hkx]
    have e2 : bindC (envOfC qual scope s.heap.objs.size f cdv [(x, s.heap.objs.size + 1)]).kindOf [(x, v)] (fun _ => none) = fun y => if y = x then some v else none := by simp [bindC, hkx]
    rw [e1, e2] at X
    obtain ⟨h₁, tk, hs₁⟩ := X.toInCall.same
    have hcell := X.cell x (s.heap.objs.size + 1) (hlk _)
    simp only [if_true] at hcell
    obtain ⟨oc', hoc, hdc⟩ := hcell
    have hkeep : s.heap.StaysIn s₁.heap := X.toInCall.keep
    have hns : s₁.heap.Ns s.heap.objs.size (fun _ => none) := X.toInCall.ns
    have hzs : z.StaysIn s₁.heap := stays_trans hz hkeep
    have hzn : ∀ a, s.heap.objs.size ≤ a → z.get? a = none := fun a ha => by
      cases e : z.get? a with
      | none => rfl
      | some o => exact absurd (Heap.lt_size (hz _ _ e)) (Nat.not_lt.mpr ha)
    have key : ∀ b ob, (only s₁.heap fun b => (z.get? b).isSome || b == s.heap.objs.size + 1).get? b = some ob → z.get? b = some ob ∨ b = s.heap.objs.size + 1 := fun b ob e => by
      obtain ⟨h1, h2⟩ := only_some.mp e
      rcases Bool.or_eq_true_iff.mp h1 with q | q
      · obtain ⟨o', q⟩ := Option.isSome_iff_exists.mp q
        have := hzs _ _ q
        rw [h2] at this; cases this; exact .inl q
      · exact .inr (beq_iff_eq.mp q)
    have zz' : z.StaysIn (only s₁.heap fun b => (z.get? b).isSome || b == s.heap.objs.size + 1) := fun b ob e => only_some.mpr ⟨by simp [e], hzs _ _ e⟩
    have F : Fz s.heap.objs.size z s.heap (only s₁.heap fun b => (z.get? b).isSome || b == s.heap.objs.size + 1) s.heap.objs.size (fun _ => none) [] s₁.heap :=
      ⟨hns, fun b ob e => (only_some.mp e).2, hkeep, Nat.le_of_lt hns.lt, zz', fun b ob e => (key b ob e).elim (fun q => .inr q) (fun q => .inl (by rw [q]; exact Nat.le_succ _)), by
        cases e : (only s₁.heap fun b => (z.get? b).isSome || b == s.heap.objs.size + 1).get? s.heap.objs.size with
        | none => rfl
        | some o =>
          rcases key _ _ e with q | q
          · rw [hzn _ (Nat.le_refl _)] at q; cases q
          · exact absurd q (Nat.ne_of_lt (Nat.lt_succ_self _)), get_none_ge (Nat.le_refl _), (fun _ hp => by cases hp), List.nodup_nil⟩
    refine wpAny_mono (h (s.heap.objs.size + 1) _ _ s₁ _ _ F zz' ⟨oc', only_some.mpr ⟨by simp, hoc⟩, hdc⟩ ?_ (hA.deeper _)) (fun fl s' q => q) fun _ _ y => y
    rw [hs₁]; exact ⟨rfl, rfl, rfl⟩
end

theorem rng_pos (P : Nat → Prop) [DecidablePred P] (i : Nat) (h : P i) : ((List.range (i + 1)).filter fun j => P j).map (· + 1) = ((List.range i).filter fun j => P j).map (· + 1) ++ [i + 1] := by
  rw [List.range_succ, List.filter_append, List.map_append]; simp [h]
theorem rng_neg (P : Nat → Prop) [DecidablePred P] (i : Nat) (h : ¬ P i) : ((List.range (i + 1)).filter fun j => P j).map (· + 1) = ((List.range i).filter fun j => P j).map (· + 1) := by
  rw [List.range_succ, List.filter_append, List.map_append]; simp [h]
theorem maxL_zero (l : List Nat) : maxL (0 :: l) = maxL l := by simp [maxL]
theorem pic_b256 : ∀ n < 256, ∀ c ∈ pic n, c < 256 := by decide +kernel
theorem drawn_b256 : ∀ {l : List Nat}, B256 l → B256 (drawn l)
  | [], _ => fun _ hc => by simp [drawn] at hc
  | x :: l, h => by rw [D_cons]; exact b256_append (pic_b256 x (h x (by simp))) (drawn_b256 (fun c hc => h c (by simp [hc])))
section
variable {prog : Program} {w : World} {A : Around} {E : Value → Shared → Prop} {s : Shared} {z : Heap} {mg mb : Str → Option Value}
set_option maxHeartbeats 1000000
theorem parted_spec {v : Value} {cs : List Nat} {Q : Value → Shared → Prop} (Am : Amb (KK w) mg mb z) (hz : z.StaysIn s.heap) (hA : Rm A 2) (hv : LstOf RNat z v cs) (hn : cs.length ≤ 900) (hb : B256 cs)
    (hQ : ∀ z' s' r, Step z s.heap z' s'.heap → Like s s' → Two true z' r (drawn (partedP cs).1, drawn (partedP cs).2) → Q r s') : wpAny (model prog w) A (call (.ref 200) [v]) Q E s := by
  obtain ⟨a, its, k0, rfl, ho, hp⟩ := hv
  have hlen : its.length = cs.length := hp.length
  refine zDefC (x := Str.ofString "codes") Am hz hA rfl rfl rfl (fun _ => rfl) rfl ?_
  intro c z₁ L s₁ E' A' F hz₁ hcell lk R
  have Am := Am.mono hz₁
  repeat' walk_at "z1"
  refine zNewF (by assumption) (by walk_at "zsz") ?_
  intro b0 z₂ s₂ F₂ hz₂ hb0 l₂
  have Am := Am.mono hz₂
  have hcell := hcell.keeps hz₂
  refine zListComp rfl ?_
  repeat' walk_at "z1"
  refine zLenL (Fz.keep (by assumption) _ _ (hz₂ _ _ (hz₁ _ _ ho))) (by omega) ?_
  intro tl s₃ h₃ l₃
  have F := Fz.onto h₃ (by assumption)
  rw [hlen]
  repeat' walk_at "z1"
  refine zRange (by assumption) ?_
  intro r z₄ s₄ t₁ t₂ t₃ F₄ hz₄ hr l₄
  have Am := Am.mono hz₄
  have hcell := hcell.keeps hz₄
  refine zIterR (by assumption) hr (by omega) R.handled ?_
  intro I o s₅ W O F₅ st l₅
  have hoz : z₄.get? a = some (LO its k0) := hz₄ _ _ (hz₂ _ _ (hz₁ _ _ ho))
  refine zCompRun W O F₅ st (by rw [sizeLine_eq]; omega) (fun i z' ys => Paired (RNat z') ys (((List.range i).filter fun j => cs[j]? = some 47).map (· + 1))) (by simpa using Paired.nil) (fun z z' ys k h => h) ?_ ?_
  · intro i v z' ys C mc s' E' loC hcC hi hv hz' hJ G l'
    obtain ⟨t, rfl⟩ := hv
    have Am := Am.mono hz'
    have hcell := hcell.keeps hz'
    obtain ⟨c0, hc0⟩ : ∃ c0, cs[i]? = some c0 := ⟨_, List.getElem?_eq_getElem hi⟩
    obtain ⟨x, hx, ⟨tx, rfl⟩⟩ := paired_get' hp hc0
    refine wpAny_tests_one ?_
    repeat' walk_at "z1"
    refine zItem (G.keep _ _ (hz' _ _ hoz)) (by omega) hx ?_
    repeat' walk_at "z1"
    refine iteB (fun h1 => ?_) (fun h1 => ?_)
    · have h1 : c0 = 47 := by have := eq_of_beq h1; omega
      repeat' walk_at "z1"
      refine ⟨z', _, by assumption, ?_, by walk_at "like"⟩
      rw [rng_pos (fun j => cs[j]? = some 47) i (by rw [hc0, h1])]
      exact paired_append hJ (.cons ⟨_, rfl⟩ .nil)
    · have h1 : ¬ c0 = 47 := by have := beq_eq_false_iff_ne.mp h1; omega
      refine ⟨z', _, by assumption, ?_, by walk_at "like"⟩
      rw [rng_neg (fun j => cs[j]? = some 47) i (by rw [hc0]; simpa using h1)]
      exact hJ
  · intro D z' ys k s' F' hz' hD hJ l'
    have hyl : ys.length ≤ cs.length := by
      rw [hJ.length, List.length_map]
      have := List.length_filter_le (fun j => decide (cs[j]? = some 47)) (List.range cs.length)
      simpa using this
    refine zAddL (by assumption) (F'.keep _ _ (hz' _ _ (hz₄ _ _ hb0))) (F'.keep _ _ hD) (by rw [sizeLine_eq]; simp; omega) ?_
    intro e z₅ s₆ F₆ hz₅ he l₆
    have Am := (Am.mono hz').mono hz₅
    have hcell := (hcell.keeps hz').keeps hz₅
    repeat' walk_at "z1"
    refine zMaxL (by assumption) R.handled he (ns := 0 :: ((List.range cs.length).filter fun j => cs[j]? = some 47).map (· + 1)) (.cons ⟨_, rfl⟩ hJ) (by simp) ?_
    intro tm s₇ F₇ l₇
    rw [maxL_zero, show maxL (((List.range cs.length).filter fun j => cs[j]? = some 47).map (· + 1)) = lastIx cs from rfl]
    have hll := lastIx_le cs
    have hoz : z₅.get? a = some (LO its k0) := hz₅ _ _ (hz' _ _ hoz)
    clear hJ hD he hyl W O st F₅ F' hz₅ hz'
    repeat' walk_at "z1"
    refine zNewF (by assumption) (by walk_at "zsz") ?_
    intro b1 z₆ s₈ F₈ hz₆ hb1 l₈
    have Am := Am.mono hz₆
    have hcell := hcell.keeps hz₆
    refine zListComp rfl ?_
    repeat' walk_at "z1"
    refine zRange (by assumption) ?_
    intro r' z₇ s₉ t₁' t₂' t₃' F₉ hz₇ hr' l₉
    have Am := Am.mono hz₇
    have hcell := hcell.keeps hz₇
    refine zIterR (by assumption) hr' (by omega) R.handled ?_
    intro I' o' s₁₀ W' O' F₁₀ st' l₁₀
    have hoz : z₇.get? a = some (LO its k0) := hz₇ _ _ (hz₆ _ _ hoz)
    refine zCompRun W' O' F₁₀ st' (by rw [sizeLine_eq]; omega) (fun i z' ys => Paired (RNat z') ys (((List.range i).filter fun j => cs[j]? ≠ some 47).map (· + 1))) (by simpa using Paired.nil) (fun z z' ys k h => h) ?_ ?_
    · intro i v z' ys C mc s' E' loC hcC hi hv hz' hJ G l'
      obtain ⟨t, rfl⟩ := hv
      have Am := Am.mono hz'
      have hcell := hcell.keeps hz'
      obtain ⟨c0, hc0⟩ : ∃ c0, cs[i]? = some c0 := ⟨_, List.getElem?_eq_getElem (by omega)⟩
      obtain ⟨x, hx, ⟨tx, rfl⟩⟩ := paired_get' hp hc0
      refine wpAny_tests_one ?_
      repeat' walk_at "z1"
      refine zItem (G.keep _ _ (hz' _ _ hoz)) (by omega) hx ?_
      repeat' walk_at "z1"
      refine iteB (fun h1 => ?_) (fun h1 => ?_)
      · have h1 : ¬ c0 = 47 := by simp at h1; omega
        repeat' walk_at "z1"
        refine ⟨z', _, by assumption, ?_, by walk_at "like"⟩
        rw [rng_pos (fun j => cs[j]? ≠ some 47) i (by rw [hc0]; simpa using h1)]
        exact paired_append hJ (.cons ⟨_, rfl⟩ .nil)
      · have h1 : c0 = 47 := by simp at h1; omega
        refine ⟨z', _, by assumption, ?_, by walk_at "like"⟩
        rw [rng_neg (fun j => cs[j]? ≠ some 47) i (by rw [hc0, h1]; simp)]
        exact hJ
    · intro D z' ys k s' F' hz' hD hJ l'
      have hyl : ys.length ≤ cs.length := by
        rw [hJ.length, List.length_map]
        have := List.length_filter_le (fun j => decide (cs[j]? ≠ some 47)) (List.range (lastIx cs))
        simp at this ⊢; omega
      refine zAddL (by assumption) (F'.keep _ _ (hz' _ _ (hz₇ _ _ hb1))) (F'.keep _ _ hD) (by rw [sizeLine_eq]; simp; omega) ?_
      intro e z₈ s₁₁ F₁₁ hz₈ he l₁₁
      have Am := (Am.mono hz').mono hz₈
      have hcell := (hcell.keeps hz').keeps hz₈
      repeat' walk_at "z1"
      refine zMaxL (by assumption) R.handled he (ns := 0 :: ((List.range (lastIx cs)).filter fun j => cs[j]? ≠ some 47).map (· + 1)) (.cons ⟨_, rfl⟩ hJ) (by simp) ?_
      intro tm' s₁₂ F₁₂ l₁₂
      rw [maxL_zero, show maxL (((List.range (lastIx cs)).filter fun j => cs[j]? ≠ some 47).map (· + 1)) = innerIx cs (lastIx cs) from rfl]
      have hoz : z₈.get? a = some (LO its k0) := hz₈ _ _ (hz' _ _ hoz)
      clear hJ hD he hyl W' O' st' F₁₀ F' hz₈ hz'
      repeat' walk_at "z1"
      refine iteB (fun h1 => ?_) (fun h1 => ?_)
      · have h1 : ¬ innerIx cs (lastIx cs) = 0 := by simp at h1; omega
        repeat' walk_at "z1"
        refine zSliceL (by assumption) (Fz.keep (by assumption) _ _ hoz) .none (.int _ _) .none (by simp) (by omega) (pick_cut _ _ _) ?_
        intro D1 y1 r1 G1 hy1 hD1 k1
        rw [cutP_to] at hD1
        have Am := Am.mono hy1
        have hcell := hcell.keeps hy1
        repeat' walk_at "z1"
        refine drawn_spec Am (Fz.keep (by assumption)) R (cs := cs.take (innerIx cs (lastIx cs))) ⟨D1, _, 0, rfl, hD1, paired_mono (fun _ _ h => h) (paired_take hp _)⟩ (by simp; omega) (fun c hc => hb c (List.mem_of_mem_take hc)) ?_
        intro y2 r2 td1 st2 k2
        have F := Fz.step (by assumption) st2
        have Am := Am.mono st2.zz
        have hcell := hcell.keeps st2.zz
        have hoz := st2.zz _ _ (hy1 _ _ hoz)
        repeat' walk_at "z1"
        refine zSliceL (by assumption) (Fz.keep (by assumption) _ _ hoz) (.int _ _) .none .none (by simp) (by omega) (pick_cut _ _ _) ?_
        intro D3 y3 r3 G3 hy3 hD3 k3
        rw [cutP_from] at hD3
        have Am := Am.mono hy3
        have hcell := hcell.keeps hy3
        repeat' walk_at "z1"
        refine drawn_spec Am (Fz.keep (by assumption)) R (cs := cs.drop (lastIx cs)) ⟨D3, _, 0, rfl, hD3, paired_mono (fun _ _ h => h) (paired_drop hp _)⟩ (by simp; omega) (fun c hc => hb c (List.mem_of_mem_drop hc)) ?_
        intro y4 r4 td2 st4 k4
        have F := Fz.step (by assumption) st4
        repeat' walk_at "z1"
        refine zTup (by assumption) (by walk_at "zsz") ?_
        intro tb y5 r5 G5 hy5 htb k5
        repeat' walk_at "z1"
        refine hQ _ _ _ G5.done (by walk_at "like") ⟨tb, _, _, _, rfl, htb, ?_, ?_⟩
        · rw [partedP, if_neg h1]
          exact pv_str (drawn_b256 (fun c hc => hb c (List.mem_of_mem_take hc)))
        · exact pv_str (drawn_b256 (fun c hc => hb c (List.mem_of_mem_drop hc)))
      · have h1 : innerIx cs (lastIx cs) = 0 := by simp at h1; omega
        repeat' walk_at "z1"
        refine zSliceL (by assumption) (Fz.keep (by assumption) _ _ hoz) .none (.int _ _) .none (by simp) (by omega) (pick_cut _ _ _) ?_
        intro D1 y1 r1 G1 hy1 hD1 k1
        rw [cutP_to] at hD1
        have Am := Am.mono hy1
        have hcell := hcell.keeps hy1
        repeat' walk_at "z1"
        refine drawn_spec Am (Fz.keep (by assumption)) R (cs := cs.take (lastIx cs)) ⟨D1, _, 0, rfl, hD1, paired_mono (fun _ _ h => h) (paired_take hp _)⟩ (by simp; omega) (fun c hc => hb c (List.mem_of_mem_take hc)) ?_
        intro y2 r2 td1 st2 k2
        have F := Fz.step (by assumption) st2
        have Am := Am.mono st2.zz
        have hcell := hcell.keeps st2.zz
        have hoz := st2.zz _ _ (hy1 _ _ hoz)
        repeat' walk_at "z1"
        refine zSliceL (by assumption) (Fz.keep (by assumption) _ _ hoz) (.int _ _) .none .none (by simp) (by omega) (pick_cut _ _ _) ?_
        intro D3 y3 r3 G3 hy3 hD3 k3
        rw [cutP_from] at hD3
        have Am := Am.mono hy3
        have hcell := hcell.keeps hy3
        repeat' walk_at "z1"
        refine drawn_spec Am (Fz.keep (by assumption)) R (cs := cs.drop (lastIx cs)) ⟨D3, _, 0, rfl, hD3, paired_mono (fun _ _ h => h) (paired_drop hp _)⟩ (by simp; omega) (fun c hc => hb c (List.mem_of_mem_drop hc)) ?_
        intro y4 r4 td2 st4 k4
        have F := Fz.step (by assumption) st4
        repeat' walk_at "z1"
        refine zTup (by assumption) (by walk_at "zsz") ?_
        intro tb y5 r5 G5 hy5 htb k5
        repeat' walk_at "z1"
        refine hQ _ _ _ G5.done (by walk_at "like") ⟨tb, _, _, _, rfl, htb, ?_, ?_⟩
        · rw [partedP, if_pos h1]
          exact pv_str (drawn_b256 (fun c hc => hb c (List.mem_of_mem_take hc)))
        · exact pv_str (drawn_b256 (fun c hc => hb c (List.mem_of_mem_drop hc)))
end

theorem mapU8 {l : List Nat} (h : B256 l) : (l.map fun n => UInt8.ofNat n).map (·.toNat) = l := by
  rw [List.map_map]
  conv => rhs; rw [← List.map_id l]
  apply List.map_congr_left
  intro c hc
  have := h c hc
  simp; omega
section
variable {prog : Program} {w : World} {A : Around} {E : Value → Shared → Prop} {s : Shared} {z : Heap} {mg mb : Str → Option Value}
set_option maxHeartbeats 1000000
theorem shown_pv {l : List Nat} {v : Value} {Q : Value → Shared → Prop} (Am : Amb (KK w) mg mb z) (hz : z.StaysIn s.heap) (hA : Rm A 4) (hv : PV false l v) (hn : l.length ≤ 3000)
    (hQ : ∀ z' s' t, Step z s.heap z' s'.heap → Like s s' → Q (.str (tS (drawn l)) t) s') : wpAny (model prog w) A (call (.ref 176) [v]) Q E s := by
  obtain ⟨t, rfl⟩ := hv.byt
  refine shown_bytes (b := l.map fun n => UInt8.ofNat n) Am hz hA (by simpa using hn) fun z' s' t' st lk => ?_
  rw [mapU8 hv.1]; exact hQ z' s' t' st lk
def Climbed (z : Heap) (v : Value) (r : List Nat) (names : List (List Nat)) : Prop := ∃ a t x k, v = .ref a ∧ z.get? a = some (TO [.str (tS r) t, x] k) ∧ LstOf RStr z x names
theorem climbed_spec {l r : List Nat} {names : List (List Nat)} {n : Nat} {v : Value} {Q : Value → Shared → Prop} (Am : Amb (KK w) mg mb z) (hz : z.StaysIn s.heap) (hA : Rm A 5) (hv : PV false l v) (hn : l.length ≤ 900)
    (hc : climbP n (splitP l).1 (splitP l).2 [] = some (r, names)) (hn2 : n ≤ 2000)
    (hQ : ∀ z' s' v', Step z s.heap z' s'.heap → Like s s' → Climbed z' v' (drawn r) (names.map drawn).reverse → Q v' s') : wpAny (model prog w) A (call (.ref 207) [v]) Q E s := by
  refine zDef (binds := [(Str.ofString "path", v)]) Am hz hA rfl rfl rfl rfl ?_
  intro L s₁ E' A' F lk R
  repeat' walk_at "z1"
  refine zNewM (by assumption) (by walk_at "zsz") ?_
  intro N s₂ F₂ l₂
  repeat' walk_at "z1"
  refine split_spec Am (Fz.keep (by assumption)) (R.le (by omega)) hv (by omega) ?_
  intro z₃ s₃ r₃ st₃ l₃ h₃
  have F := Fz.step (by assumption) st₃
  have Am := Am.mono st₃.zz
  obtain ⟨ta, vp, vn, tn, rfl, hta, hvp, hvn⟩ := h₃
  refine zAssignT F hta R.handled ?_
  intro s₄ F₄ l₄
  repeat' walk_at "z1"
  have hsl := split_len l
  refine codeAny_whileLoop (fun n s' => ∃ z' m' place name acc vp vn vs kk, climbP n place name acc = some (r, names) ∧ Fz s.heap.objs.size z s.heap z' L m' [(N, LO vs kk)] s'.heap ∧ z₃.StaysIn z' ∧ m' (Str.ofString "names") = some (.ref N) ∧ m' (Str.ofString "place") = some vp ∧ m' (Str.ofString "name") = some vn ∧
    PV false place vp ∧ PV false name vn ∧ Paired (RStr z') vs (acc.map drawn) ∧ place.length ≤ 900 ∧ name.length ≤ 900 ∧ acc.length + n ≤ 2000 ∧ Like s s') ?_ n
    ⟨z₃, _, _, _, [], vp, vn, [], 0, hc, by assumption, stays_refl _, by walk_at "mlook", by walk_at "mlook", by walk_at "mlook", hvp, hvn, .nil, by omega, by omega, by simpa using hn2, by walk_at "like"⟩
  rintro k s' ⟨z', m', place, name, acc, vp', vn', vs, kk, hcl, F, hz', hm1, hm2, hm3, hp, hnm, hacc, hl1, hl2, hl3, lk'⟩
  have Am := Am.mono hz'
  have hvl : vs.length = acc.length := by rw [hacc.length, List.length_map]
  cases k with
  | zero => simp [climbP] at hcl
  | succ k =>
    repeat' walk_at "z1"
    refine pTruth hnm (by omega) ?_
    intro s₅ h₅ l₅
    have F := Fz.onto h₅ (by assumption)
    refine iteB (fun h1 => ?_) (fun h1 => ?_)
    · have h1 : name ≠ [] := of_decide_eq_true h1
      rw [climbP, if_neg h1] at hcl
      repeat' walk_at "z1"
      refine zMethL PySem.F.slot_list_append PySem.F.type_list_append (F.mu (N, LO vs kk) (by simp)).1 ?_
      refine callWith_method1 ?_
      repeat' walk_at "z1"
      refine shown_pv Am (Fz.keep (by assumption)) R hnm (by omega) ?_
      intro z₆ s₆ t₆ st₆ l₆
      have F := Fz.step (by assumption) st₆
      have Am := Am.mono st₆.zz
      repeat' walk_at "z1"
      refine zAppend (pre := []) (by assumption) (by rw [sizeLine_eq]; omega) ?_
      intro k' s₇ F₇ _ l₇
      repeat' walk_at "z1"
      refine split_spec Am (Fz.keep (by assumption)) (R.le (by omega)) hp (by omega) ?_
      intro z₈ s₈ r₈ st₈ l₈ h₈
      have F := Fz.step (by assumption) st₈
      have Am := Am.mono st₈.zz
      obtain ⟨ta', vp2, vn2, tn', rfl, hta', hvp2, hvn2⟩ := h₈
      refine zAssignT F hta' R.handled ?_
      intro s₉ F₉ l₉
      repeat' walk_at "z1"
      have hsl := split_len place
      refine ⟨k, by omega, z₈, _, _, _, acc ++ [name], vp2, vn2, vs ++ [.str (tS (drawn name)) t₆], k', hcl, by assumption, stays_trans hz' (stays_trans st₆.zz st₈.zz), by walk_at "mlook", by walk_at "mlook", by walk_at "mlook", hvp2, hvn2, ?_, by omega, by omega, by simp; omega, by walk_at "like"⟩
      rw [List.map_append]
      exact paired_append (paired_mono (fun v x => mono_RStr _ _ v x (stays_trans st₆.zz st₈.zz)) hacc) (.cons ⟨_, rfl⟩ .nil)
    · have h1 : name = [] := by simpa using h1
      rw [climbP, if_pos h1] at hcl
      cases hcl
      repeat' walk_at "z1"
      refine shown_pv Am (Fz.keep (by assumption)) R hp (by omega) ?_
      intro z₆ s₆ t₆ st₆ l₆
      have F := Fz.step (by assumption) st₆
      have Am := Am.mono st₆.zz
      repeat' walk_at "z1"
      refine zSliceL (by assumption) (F.mu (N, LO vs kk) (by simp)).1 .none .none (.int _ _) (by decide) (by omega) (pick_rev _) ?_
      intro D z₇ s₇ F₇ hz₇ hD l₇
      repeat' walk_at "z1"
      refine zTup (by assumption) (by walk_at "zsz") ?_
      intro tb z₈ s₈ F₈ hz₈ htb l₈
      repeat' walk_at "z1"
      refine hQ _ _ _ F₈.drop.done (by walk_at "like") ⟨tb, _, _, _, rfl, htb, ⟨D, _, 0, rfl, hz₈ _ _ hD, ?_⟩⟩
      exact paired_reverse (paired_mono (fun v x => mono_RStr _ _ v x (stays_trans st₆.zz (stays_trans hz₇ hz₈))) hacc)
end

def inF (cs : List (List Nat)) (st : Nat × List (List Nat)) : Nat × List (List Nat) := cs.foldl (fun st c => debtStep c st) st
def outF (ps : List (List Nat)) : Nat × List (List Nat) := ps.foldl (fun st p => (cut47 p).foldr debtStep st) (0, [])
theorem debtStep_le (c : List Nat) (st : Nat × List (List Nat)) : (debtStep c st).1 ≤ st.1 + 1 ∧ (debtStep c st).2.length ≤ st.2.length + 1 := by
  unfold debtStep; split
  · simp
  · split
    · split <;> simp; omega
    · simp
theorem inF_le : ∀ (cs : List (List Nat)) (st : Nat × List (List Nat)), (inF cs st).1 ≤ st.1 + cs.length ∧ (inF cs st).2.length ≤ st.2.length + cs.length
  | [], st => by simp [inF]
  | c :: cs, st => by
    have h1 := inF_le cs (debtStep c st)
    have h2 := debtStep_le c st
    unfold inF at h1 ⊢
    simp only [List.foldl_cons, List.length_cons]; omega
theorem inF_rev (cs : List (List Nat)) (st : Nat × List (List Nat)) : inF cs.reverse st = cs.foldr debtStep st := by
  unfold inF; rw [List.foldl_reverse]
theorem outFold_le : ∀ (ps : List (List Nat)) (st : Nat × List (List Nat)), (∀ p ∈ ps, p.length ≤ 300) → (ps.foldl (fun st p => (cut47 p).foldr debtStep st) st).1 ≤ st.1 + 301 * ps.length ∧ (ps.foldl (fun st p => (cut47 p).foldr debtStep st) st).2.length ≤ st.2.length + 301 * ps.length
  | [], st, _ => by simp
  | p :: ps, st, h => by
    have h1 := outFold_le ps ((cut47 p).foldr debtStep st) (fun q hq => h q (by simp [hq]))
    have h2 := inF_le (cut47 p).reverse st
    rw [inF_rev, List.length_reverse] at h2
    have h3 := cut_count p
    have h4 := h p (by simp)
    simp only [List.foldl_cons, List.length_cons]; omega
theorem outF_le (ps : List (List Nat)) (h : ∀ p ∈ ps, p.length ≤ 300) : (outF ps).1 ≤ 301 * ps.length ∧ (outF ps).2.length ≤ 301 * ps.length := by
  have := outFold_le ps (0, []) h
  simpa [outF] using this
theorem outF_rev (ps : List (List Nat)) : outF ps.reverse = debtF (ps.flatMap cut47) := by
  unfold outF debtF
  rw [List.foldl_reverse]
  induction ps with
  | nil => rfl
  | cons p ps ih => rw [List.foldr_cons, ih, List.flatMap_cons, List.foldr_append]
theorem paired_rep {α β : Type} {F : α → β → Prop} {a : α} {b : β} : ∀ (n : Nat), (Unit → F a b) → Paired F (List.replicate n a) (List.replicate n b)
  | 0, _ => .nil
  | n + 1, h => .cons (h ()) (paired_rep n h)
theorem upd_int {m : Str → Option Value} {x : Str} {i j : Int} {t : Tok} (h : i = j) : upd m x (.int i t) x = some (.int j t) := by subst h; exact upd_same
theorem take1_iff (l : List Nat) : l.take 1 = [47] ↔ l.head? = some 47 := by
  cases l with
  | nil => simp
  | cons c l => simp
theorem lead_le (l : List Nat) : lead l ≤ l.length := by
  unfold lead
  exact (List.takeWhile_prefix _).length_le
theorem lead_step : ∀ (l : List Nat) (i : Nat), i ≤ lead l → ((l.drop i).take 1 = [47] ↔ i < lead l)
  | [], i, h => by simp [lead] at h; subst h; simp [lead]
  | c :: l, 0, _ => by
    by_cases hc : c = 47
    · subst hc; simp [lead]
    · simp [lead, hc]
  | c :: l, i + 1, h => by
    by_cases hc : c = 47
    · subst hc
      have hl : lead (47 :: l) = lead l + 1 := by simp [lead]
      rw [hl] at h ⊢
      have := lead_step l i (by omega)
      simp only [List.drop_succ_cons]
      rw [this]; omega
    · have : lead (c :: l) = 0 := by simp [lead, hc]
      omega
theorem rng1_pos (P : Nat → Prop) [DecidablePred P] (i : Nat) (h : P i) : ((List.range (i + 1)).filter fun j => P j) = ((List.range i).filter fun j => P j) ++ [i] := by
  rw [List.range_succ, List.filter_append]; simp [h]
theorem rng1_neg (P : Nat → Prop) [DecidablePred P] (i : Nat) (h : ¬ P i) : ((List.range (i + 1)).filter fun j => P j) = ((List.range i).filter fun j => P j) := by
  rw [List.range_succ, List.filter_append]; simp [h]
theorem dNats_lay (l : List Nat) : (Mine.dNats l).canLay0 = true := canLay_map (f := fun (n : Nat) => PyData.int n) (fun _ => rfl) l
theorem dNats_depth (l : List Nat) : (Mine.dNats l).depth ≤ 5 := by
  have := depth_map (f := fun (n : Nat) => PyData.int n) (n := 0) (fun _ => Nat.le_refl _) l
  simp only [dNats, PyData.depth]; omega
section
variable {prog : Program} {w : World} {A : Around} {E : Value → Shared → Prop} {s : Shared} {z : Heap} {mg mb : Str → Option Value}
set_option maxHeartbeats 1000000
theorem rdN {z : Heap} {v : Value} {l : List Nat} (h : LstOf RNat z v l) : RD z v (Mine.dNats l) := rd_list (fun v x h => rd_nat h) h
theorem zEqN {a b : Value} {x y : List Nat} {n : Nat} {Q : Value → Shared → Prop} (hA : Rm A n) (hz : z.StaysIn s.heap) (ra : LstOf RNat z a x) (rb : LstOf RNat z b y) (h : Q (.bool (decide (x = y))) s) : wpAny (model prog w) A (compareOp .Eq a b) Q E s := by
  refine zEqD hA hz (rdN ra) (rdN rb) (dNats_lay _) (dNats_lay _) (dNats_depth _) ?_
  rw [show PyData.eqv (Mine.dNats x) (Mine.dNats y) = decide (x = y) from eqv_nats x y]; exact h
theorem zNeN {a b : Value} {x y : List Nat} {n : Nat} {Q : Value → Shared → Prop} (hA : Rm A n) (hz : z.StaysIn s.heap) (ra : LstOf RNat z a x) (rb : LstOf RNat z b y) (h : Q (.bool (!decide (x = y))) s) : wpAny (model prog w) A (compareOp .NotEq a b) Q E s := by
  refine zNeD hA hz (rdN ra) (rdN rb) (dNats_lay _) (dNats_lay _) (dNats_depth _) ?_
  rw [show PyData.eqv (Mine.dNats x) (Mine.dNats y) = decide (x = y) from eqv_nats x y]; exact h
def straightOf (ps : List (List Nat)) : List (List Nat) := (stk (decide (lead (ps.getD (firstP ps) []) ≠ 0)) (debtF ((ps.drop (firstP ps)).flatMap cut47)).1 (debtF ((ps.drop (firstP ps)).flatMap cut47)).2).map drawn
theorem straight_spec {v : Value} {ps : List (List Nat)} {Q : Value → Shared → Prop} (Am : Amb (KK w) mg mb z) (hz : z.StaysIn s.heap) (hA : Rm A 2) (hv : LstOf (LstOf RNat) z v ps) (hn : ps.length ≤ 4) (hne : ps ≠ []) (hpl : ∀ p ∈ ps, p.length ≤ 300) (hb : ∀ p ∈ ps, B256 p)
    (hQ : ∀ z' s' r, Step z s.heap z' s'.heap → Like s s' → Climbed z' r (rootOf (lead (ps.getD (firstP ps) []))) (straightOf ps) → Q r s') : wpAny (model prog w) A (call (.ref 195) [v]) Q E s := by
  obtain ⟨a, its, k0, rfl, ho, hp⟩ := hv
  have hlen : its.length = ps.length := hp.length
  refine zDefC (x := Str.ofString "parts") Am hz hA rfl rfl rfl (fun _ => rfl) rfl ?_
  intro c z₁ L s₁ E' A' F hz₁ hcell lk R
  have Am := Am.mono hz₁
  repeat' walk_at "z1"
  refine zNewF (by assumption) (by walk_at "zsz") ?_
  intro b0 z₂ s₂ F₂ hz₂ hb0 l₂
  have Am := Am.mono hz₂
  have hcell := hcell.keeps hz₂
  refine zListComp rfl ?_
  repeat' walk_at "z1"
  refine zLenL (Fz.keep (by assumption) _ _ (hz₂ _ _ (hz₁ _ _ ho))) (by omega) ?_
  intro tl s₃ h₃ l₃
  have F := Fz.onto h₃ (by assumption)
  rw [hlen]
  repeat' walk_at "z1"
  refine zRange (by assumption) ?_
  intro r z₄ s₄ t₁ t₂ t₃ F₄ hz₄ hr l₄
  have Am := Am.mono hz₄
  have hcell := hcell.keeps hz₄
  refine zIterR (by assumption) hr (by omega) R.handled ?_
  intro I o s₅ W O F₅ st l₅
  have hzz : z.StaysIn z₄ := stays_trans hz₁ (stays_trans hz₂ hz₄)
  have hoz : z₄.get? a = some (LO its k0) := hzz _ _ ho
  have hp : Paired (LstOf RNat z₄) its ps := paired_mono (fun v x => mono_Lst mono_RNat _ _ v x hzz) hp
  refine zCompRun W O F₅ st (by rw [sizeLine_eq]; omega) (fun i z' ys => Paired (RNat z') ys ((List.range i).filter fun j => (ps.getD j []).head? = some 47)) (by simpa using Paired.nil) (fun z z' ys k h => h) ?_ ?_
  · intro i v z' ys C mc s' E' loC hcC hi hv hz' hJ G l'
    obtain ⟨t, rfl⟩ := hv
    have Am := Am.mono hz'
    have hcell := hcell.keeps hz'
    obtain ⟨p0, hp0⟩ : ∃ p0, ps[i]? = some p0 := ⟨_, List.getElem?_eq_getElem hi⟩
    obtain ⟨x, hx, ⟨px, pits, pk, rfl, hpo, hpp⟩⟩ := paired_get' hp hp0
    have hpl0 := hpl p0 (List.mem_of_getElem? hp0)
    have hgd : ps.getD i [] = p0 := by rw [List.getD_eq_getElem?_getD, hp0]; rfl
    refine wpAny_tests_one ?_
    repeat' walk_at "z1"
    refine zItem (G.keep _ _ (hz' _ _ hoz)) (by omega) hx ?_
    repeat' walk_at "z1"
    refine zSliceL (by assumption) (G.keep _ _ (hz' _ _ hpo)) .none (.int _ _) .none (by simp) (by rw [hpp.length]; omega) (pick_cut _ _ _) ?_
    intro D1 y1 r1 G1 hy1 hD1 k1
    rw [show cutP none (some 1) pits = pits.take 1 from cutP_to 1 pits] at hD1
    repeat' walk_at "z1"
    refine zNewF (by assumption) (by walk_at "zsz") ?_
    intro D2 y2 r2 G2 hy2 hD2 k2
    refine zEqN R G2.keep (x := p0.take 1) (y := [47]) ⟨D1, _, 0, rfl, hy2 _ _ hD1, paired_mono (fun _ _ h => h) (paired_take hpp 1)⟩ ⟨D2, _, 0, rfl, hD2, .cons ⟨_, rfl⟩ .nil⟩ ?_
    repeat' walk_at "z1"
    refine iteB (fun h1 => ?_) (fun h1 => ?_)
    · have h1 : p0.head? = some 47 := (take1_iff _).mp (of_decide_eq_true h1)
      repeat' walk_at "z1"
      refine ⟨y2, _, by assumption, ?_, by walk_at "like"⟩
      rw [rng1_pos (fun j => (ps.getD j []).head? = some 47) i (by rw [hgd]; exact h1)]
      exact paired_append hJ (.cons ⟨_, rfl⟩ .nil)
    · have h1 : ¬ p0.head? = some 47 := fun e => (of_decide_eq_false h1) ((take1_iff _).mpr e)
      refine ⟨y2, _, by assumption, ?_, by walk_at "like"⟩
      rw [rng1_neg (fun j => (ps.getD j []).head? = some 47) i (by rw [hgd]; exact h1)]
      exact hJ
  · intro D z' ys k s' F' hz' hD hJ l'
    have hyl : ys.length ≤ ps.length := by
      rw [hJ.length]
      have := List.length_filter_le (fun j => decide ((ps.getD j []).head? = some 47)) (List.range ps.length)
      simpa using this
    refine zAddL (by assumption) (F'.keep _ _ (hz' _ _ (hz₄ _ _ hb0))) (F'.keep _ _ hD) (by rw [sizeLine_eq]; simp; omega) ?_
    intro e z₅ s₆ F₆ hz₅ he l₆
    have Am := (Am.mono hz').mono hz₅
    have hcell := (hcell.keeps hz').keeps hz₅
    repeat' walk_at "z1"
    refine zMaxL (by assumption) R.handled he (ns := 0 :: ((List.range ps.length).filter fun j => (ps.getD j []).head? = some 47)) (.cons ⟨_, rfl⟩ hJ) (by simp) ?_
    intro tm s₇ F₇ l₇
    have hmx : maxL (0 :: ((List.range ps.length).filter fun j => (ps.getD j []).head? = some 47)) = firstP ps := by simp [maxL, firstP, absIdx]
    rw [hmx]
    have hoz : z₅.get? a = some (LO its k0) := hz₅ _ _ (hz' _ _ hoz)
    have hp : Paired (LstOf RNat z₅) its ps := paired_mono (fun v x => mono_Lst mono_RNat _ _ v x (stays_trans hz' hz₅)) hp
    have hfl := firstP_lt hne
    obtain ⟨pf, hpf⟩ : ∃ pf, ps[firstP ps]? = some pf := ⟨_, List.getElem?_eq_getElem hfl⟩
    have hgf : ps.getD (firstP ps) [] = pf := by rw [List.getD_eq_getElem?_getD, hpf]; rfl
    obtain ⟨xf, hxf, ⟨fx, fits, fk, rfl, hfo, hfp⟩⟩ := paired_get' hp hpf
    have hpfl := hpl pf (List.mem_of_getElem? hpf)
    have hll := lead_le pf
    clear hJ hD he hyl W O st F₅ F' hz₅ hz'
    repeat' walk_at "z1"
    refine codeAny_whileLoop (fun n s' => ∃ i z' m' ti, n = pf.length + 1 - i ∧ i ≤ lead pf ∧ Fz s.heap.objs.size z s.heap z' L m' [] s'.heap ∧ z₅.StaysIn z' ∧ m' (Str.ofString "first") = some (.int (firstP ps : Nat) tm) ∧ m' (Str.ofString "front") = some (.int (i : Nat) ti) ∧ Like s s') ?_ (pf.length + 1)
      ⟨0, z₅, _, _, rfl, Nat.zero_le _, by assumption, stays_refl _, by walk_at "mlook", by walk_at "mlook", by walk_at "like"⟩
    rintro n s' ⟨i0, z', m', ti, rfl, hi, F, hz', hm1, hm2, lk'⟩
    have Am := Am.mono hz'
    have hcell := hcell.keeps hz'
    repeat' walk_at "z1"
    refine zItem (F.keep _ _ (hz' _ _ hoz)) (by omega) hxf ?_
    repeat' walk_at "z1"
    refine zSliceL (by assumption) (Fz.keep (by assumption) _ _ (hz' _ _ hfo)) (.int _ _) (.int _ _) .none (by simp) (by rw [hfp.length]; omega) (pick_cut _ _ _) ?_
    intro D1 y1 r1 G1 hy1 hD1 k1
    have e1 := cutP_both i0 (i0 + 1) fits
    rw [show (((i0 + 1 : Nat)) : Int) = (i0 : Int) + 1 from rfl, Nat.add_sub_cancel_left] at e1
    rw [e1] at hD1
    have Am := Am.mono hy1
    have hcell := hcell.keeps hy1
    repeat' walk_at "z1"
    refine zNewF (by assumption) (by walk_at "zsz") ?_
    intro D2 y2 r2 G2 hy2 hD2 k2
    have Am := Am.mono hy2
    have hcell := hcell.keeps hy2
    have hz' := stays_trans hz' (stays_trans hy1 hy2)
    refine zEqN R G2.keep (x := (pf.drop i0).take 1) (y := [47]) ⟨D1, _, 0, rfl, hy2 _ _ hD1, paired_mono (fun _ _ h => h) (paired_take (paired_drop hfp i0) 1)⟩ ⟨D2, _, 0, rfl, hD2, .cons ⟨_, rfl⟩ .nil⟩ ?_
    repeat' walk_at "z1"
    have hls := lead_step pf i0 hi
    refine iteB (fun h1 => ?_) (fun h1 => ?_)
    · have h1 : i0 < lead pf := hls.mp (of_decide_eq_true h1)
      repeat' walk_at "z1"
      exact ⟨pf.length + 1 - (i0 + 1), by omega, i0 + 1, y2, _, _, rfl, h1, by assumption, hz', by walk_at "mlook", upd_same, by walk_at "like"⟩
    have h1 : ¬ i0 < lead pf := fun e => (of_decide_eq_false h1) (hls.mpr e)
    have hil : i0 = lead pf := by omega
    have hoz : y2.get? a = some (LO its k0) := hz' _ _ hoz
    have hp : Paired (LstOf RNat y2) its ps := paired_mono (fun v x => mono_Lst mono_RNat _ _ v x hz') hp
    clear hfo hfp hxf hb0
    repeat' walk_at "z1"
    refine zNewM (by assumption) (by walk_at "zsz") ?_
    intro N s₈ F₈ l₈
    repeat' walk_at "z1"
    refine zSliceL (by assumption) (Fz.keep (by assumption) _ _ hoz) (.int _ _) .none .none (by simp) (by omega) (pick_cut _ _ _) ?_
    intro D3 y3 r3 G3 hy3 hD3 k3
    rw [cutP_from] at hD3
    have Am := Am.mono hy3
    have hcell := hcell.keeps hy3
    repeat' walk_at "z1"
    refine zSliceL (by assumption) (Fz.keep (by assumption) _ _ hD3) .none .none (.int _ _) (by decide) (by simp; omega) (pick_rev _) ?_
    intro D4 y4 r4 G4 hy4 hD4 k4
    have Am := Am.mono hy4
    have hcell := hcell.keeps hy4
    have hp4 : Paired (LstOf RNat y4) (its.drop (firstP ps)).reverse (ps.drop (firstP ps)).reverse := paired_reverse (paired_drop (paired_mono (fun v x => mono_Lst mono_RNat _ _ v x (stays_trans hy3 hy4)) hp) _)
    repeat' walk_at "z1"
    have hrl : (its.drop (firstP ps)).reverse.length = (ps.drop (firstP ps)).reverse.length := hp4.length
    have hsl : (ps.drop (firstP ps)).reverse.length ≤ 4 := by simp; omega
    refine zForL R.handled (by assumption) hD4
      (fun i z' m' ms' => ∃ vs kk td, ms' = [(N, LO vs kk)] ∧ m' (Str.ofString "names") = some (.ref N) ∧ m' (Str.ofString "debt") = some (.int ((outF ((ps.drop (firstP ps)).reverse.take i)).1 : Nat) td) ∧ m' (Str.ofString "front") = some (.int (i0 : Nat) ti) ∧
        Paired (RStr z') vs ((outF ((ps.drop (firstP ps)).reverse.take i)).2.reverse.map drawn)) ⟨[], 0, _, rfl, by walk_at "mlook", by walk_at "mlook", by walk_at "mlook", .nil⟩ ?_ ?_
    · intro I i x z' m' ms' o' s' E' hi hxi hz' hJ F' l'
      obtain ⟨vs, kk, td, rfl, hm3, hm4, hm5, hvs⟩ := hJ
      have Am := Am.mono hz'
      obtain ⟨p, hpi, hpx⟩ := paired_get hp4 hxi
      have hpm : p ∈ ps := List.mem_of_mem_drop (List.mem_reverse.mp (List.mem_of_getElem? hpi))
      have hpll := hpl p hpm
      have hpb := hb p hpm
      have hct : (ps.drop (firstP ps)).reverse.take (i + 1) = (ps.drop (firstP ps)).reverse.take i ++ [p] := by rw [List.take_add_one, hpi]; rfl
      have hob := outF_le ((ps.drop (firstP ps)).reverse.take i) (fun q hq => hpl q (List.mem_of_mem_drop (List.mem_reverse.mp (List.mem_of_mem_take hq))))
      have hti : ((ps.drop (firstP ps)).reverse.take i).length ≤ 4 := by rw [List.length_take]; omega
      generalize hst : outF ((ps.drop (firstP ps)).reverse.take i) = st at *
      have hstep : outF ((ps.drop (firstP ps)).reverse.take (i + 1)) = (cut47 p).foldr debtStep st := by rw [hct, outF, List.foldl_append, ← hst]; rfl
      rw [hstep]
      repeat' walk_at "z1"
      refine cut_spec Am (Fz.keep (by assumption)) R (mono_Lst mono_RNat _ _ _ _ hz' hpx) (by omega) ?_
      intro y5 r5 rv5 st5 k5 hcut
      have F := Fz.step (by assumption) st5
      have Am := Am.mono st5.zz
      obtain ⟨ca, cits, ck, rfl, hca, hcp⟩ := hcut
      have hcc := cut_count p
      have hcl : cits.length ≤ 301 := by rw [hcp.length]; omega
      repeat' walk_at "z1"
      refine zSliceL (by assumption) (Fz.keep (by assumption) _ _ hca) .none .none (.int _ _) (by decide) (by omega) (pick_rev _) ?_
      intro D6 y6 r6 G6 hy6 hD6 k6
      have Am := Am.mono hy6
      have hp6 : Paired (LstOf RNat y6) cits.reverse (cut47 p).reverse := paired_reverse (paired_mono (fun v x => mono_Lst mono_RNat _ _ v x hy6) hcp)
      repeat' walk_at "z1"
      refine zForL R.handled (by assumption) hD6
        (fun j z' m' ms' => ∃ vs kk td, ms' = [(I, o'), (N, LO vs kk)] ∧ m' (Str.ofString "names") = some (.ref N) ∧ m' (Str.ofString "debt") = some (.int ((inF ((cut47 p).reverse.take j) st).1 : Nat) td) ∧ m' (Str.ofString "front") = some (.int (i0 : Nat) ti) ∧
          Paired (RStr z') vs ((inF ((cut47 p).reverse.take j) st).2.reverse.map drawn)) ⟨vs, kk, td, rfl, by walk_at "mlook", by walk_at "mlook", by walk_at "mlook", paired_mono (fun v x => mono_RStr _ _ v x (stays_trans st5.zz hy6)) hvs⟩ ?_ ?_
      · intro I2 j x2 z7 m7 ms7 o7 s7 E7 hj hxj hz7 hJ7 F7 l7
        obtain ⟨vs, kk, td, rfl, hm3, hm4, hm5, hvs⟩ := hJ7
        have Am := Am.mono hz7
        obtain ⟨q, hqj, hqx⟩ := paired_get hp6 hxj
        have hqm : q ∈ cut47 p := List.mem_reverse.mp (List.mem_of_getElem? hqj)
        have hql : q.length ≤ 300 := by rw [cut47_eq] at hqm; have := cut_part_len hqm; omega
        have hqb : B256 q := b256_cut hpb q hqm
        have hct : (cut47 p).reverse.take (j + 1) = (cut47 p).reverse.take j ++ [q] := by rw [List.take_add_one, hqj]; rfl
        have hib := inF_le ((cut47 p).reverse.take j) st
        have htj : ((cut47 p).reverse.take j).length ≤ 301 := by rw [List.length_take]; simp; omega
        generalize hsu : inF ((cut47 p).reverse.take j) st = su at *
        have hstep2 : inF ((cut47 p).reverse.take (j + 1)) st = debtStep q su := by rw [hct, inF, List.foldl_append, ← hsu]; rfl
        rw [hstep2]
        have hqx := mono_Lst mono_RNat _ _ _ _ hz7 hqx
        have hvl : vs.length ≤ 2000 := by rw [hvs.length, List.length_map, List.length_reverse]; omega
        repeat' walk_at "z1"
        refine zNewF (by assumption) (by walk_at "zsz") ?_
        intro D8 y8 r8 G8 hy8 hD8 k8
        have Am := Am.mono hy8
        refine zEqN R G8.keep (x := q) (y := [46, 46]) (mono_Lst mono_RNat _ _ _ _ hy8 hqx) ⟨D8, _, 0, rfl, hD8, .cons ⟨_, rfl⟩ (.cons ⟨_, rfl⟩ .nil)⟩ ?_
        repeat' walk_at "z1"
        have hvs := paired_mono (fun v x => mono_RStr _ _ v x hy8) hvs
        have hqx := mono_Lst mono_RNat _ _ _ _ hy8 hqx
        refine iteB (fun h1 => ?_) (fun h1 => ?_)
        · have h1 : q = dd := of_decide_eq_true h1
          have hds : debtStep q su = (su.1 + 1, su.2) := by rw [debtStep, if_pos h1]
          rw [hds]
          repeat' walk_at "z1"
          exact ⟨.inl rfl, _, _, _, by assumption, hy8, ⟨vs, kk, _, rfl, by walk_at "mlook", upd_same, by walk_at "mlook", hvs⟩, by walk_at "like"⟩
        have h1 : ¬ q = dd := of_decide_eq_false h1
        repeat' walk_at "z1"
        refine zNewF (by assumption) (by walk_at "zsz") ?_
        intro D9 y9 r9 G9 hy9 hD9 k9
        have Am := Am.mono hy9
        have hvs := paired_mono (fun v x => mono_RStr _ _ v x hy9) hvs
        have hqx := mono_Lst mono_RNat _ _ _ _ hy9 hqx
        refine zNeN R G9.keep (x := q) (y := []) hqx ⟨D9, _, 0, rfl, hD9, .nil⟩ ?_
        repeat' walk_at "z1"
        refine iteB (fun h2 => ?_) (fun h2 => ?_)
        · have h2 : q ≠ [] := by simpa using h2
          repeat' walk_at "z1"
          refine zNewF (by assumption) (by walk_at "zsz") ?_
          intro Da ya ra Ga hya hDa ka
          have Am := Am.mono hya
          have hvs := paired_mono (fun v x => mono_RStr _ _ v x hya) hvs
          have hqx := mono_Lst mono_RNat _ _ _ _ hya hqx
          refine zNeN R Ga.keep (x := q) (y := [46]) hqx ⟨Da, _, 0, rfl, hDa, .cons ⟨_, rfl⟩ .nil⟩ ?_
          repeat' walk_at "z1"
          refine iteB (fun h3 => ?_) (fun h3 => ?_)
          · have h3 : q ≠ [46] := by simpa using h3
            repeat' walk_at "z1"
            refine iteB (fun h4 => ?_) (fun h4 => ?_)
            · have h4 : 0 < su.1 := by have := of_decide_eq_true h4; omega
              have hds : debtStep q su = (su.1 - 1, su.2) := by rw [debtStep, if_neg h1, if_pos ⟨h2, h3⟩, if_pos h4]
              rw [hds]
              repeat' walk_at "z1"
              refine ⟨.inl rfl, _, _, _, by assumption, stays_trans hy8 (stays_trans hy9 hya), ⟨vs, kk, _, rfl, by walk_at "mlook", upd_int (by omega), by walk_at "mlook", hvs⟩, by walk_at "like"⟩
            · have h4 : ¬ 0 < su.1 := by have := of_decide_eq_false h4; omega
              have hds : debtStep q su = (su.1, q :: su.2) := by rw [debtStep, if_neg h1, if_pos ⟨h2, h3⟩, if_neg h4]
              rw [hds]
              repeat' walk_at "z1"
              refine zMethL PySem.F.slot_list_append PySem.F.type_list_append (Fz.mu (by assumption) (N, LO vs kk) (by simp)).1 ?_
              refine callWith_method1 ?_
              repeat' walk_at "z1"
              refine drawn_spec Am (Fz.keep (by assumption)) R hqx (by omega) hqb ?_
              intro yb rb tb stb kb
              have F := Fz.step (by assumption) stb
              repeat' walk_at "z1"
              refine zAppend (pre := [(I2, o7), (I, o')]) (by assumption) (by rw [sizeLine_eq]; omega) ?_
              intro k' rc Fc _ lc
              repeat' walk_at "z1"
              refine ⟨.inl rfl, _, _, _, Fc, stays_trans hy8 (stays_trans hy9 (stays_trans hya stb.zz)), ⟨vs ++ [.str (tS (drawn q)) tb], k', _, rfl, by walk_at "mlook", by walk_at "mlook", by walk_at "mlook", ?_⟩, by walk_at "like"⟩
              rw [List.reverse_cons, List.map_append]
              exact paired_append (paired_mono (fun v x => mono_RStr _ _ v x stb.zz) hvs) (.cons ⟨_, rfl⟩ .nil)
          · have h3 : q = [46] := by simpa using h3
            have hds : debtStep q su = su := by rw [debtStep, if_neg h1, if_neg (fun e => e.2 h3)]
            rw [hds]
            repeat' walk_at "z1"
            exact ⟨.inl rfl, _, _, _, by assumption, stays_trans hy8 (stays_trans hy9 hya), ⟨vs, kk, _, rfl, by walk_at "mlook", by walk_at "mlook", by walk_at "mlook", hvs⟩, by walk_at "like"⟩
        · have h2 : q = [] := by simpa using h2
          have hds : debtStep q su = su := by rw [debtStep, if_neg h1, if_neg (fun e => e.1 h2)]
          rw [hds]
          repeat' walk_at "z1"
          exact ⟨.inl rfl, _, _, _, by assumption, stays_trans hy8 hy9, ⟨vs, kk, _, rfl, by walk_at "mlook", by walk_at "mlook", by walk_at "mlook", hvs⟩, by walk_at "like"⟩
      · intro z7 m7 ms7 s7 hz7 hJ7 F7 l7
        obtain ⟨vs, kk, td, rfl, hm3, hm4, hm5, hvs⟩ := hJ7
        rw [List.length_reverse, hcp.length, List.take_of_length_le (Nat.le_of_eq (List.length_reverse ..)), inF_rev] at hm4 hvs
        repeat' walk_at "z1"
        exact ⟨.inl rfl, _, _, _, by assumption, stays_trans st5.zz (stays_trans hy6 hz7), ⟨vs, kk, td, rfl, hm3, hm4, hm5, hvs⟩, by walk_at "like"⟩
    · intro z' m' ms' s' hz' hJ F' l'
      obtain ⟨vs, kk, td, rfl, hm3, hm4, hm5, hvs⟩ := hJ
      rw [hrl, List.take_length, outF_rev] at hm4 hvs
      have hob := outF_le (ps.drop (firstP ps)).reverse (fun q hq => hpl q (List.mem_of_mem_drop (List.mem_reverse.mp hq)))
      rw [outF_rev] at hob
      generalize hdb : debtF ((ps.drop (firstP ps)).flatMap cut47) = db at *
      have Am := Am.mono hz'
      have hcell := hcell.keeps hz'
      repeat' walk_at "z1"
      refine zTup (by assumption) (by walk_at "zsz") ?_
      intro tb yc rc Gc hyc htb kc
      have Am := Am.mono hyc
      repeat' walk_at "z1"
      refine zMin2 (b := 3) (by assumption) R.handled rfl ?_
      intro tq rd Gd kd
      have hroot : ∃ v t, ([.str (Str.ofString "") s'.toks, .str (Str.ofString "/") (s'.toks + 1), .str (Str.ofString "//") (s'.toks + 1 + 1), .str (Str.ofString "/") (s'.toks + 1 + 1 + 1)] : List Value)[min i0 3]? = some v ∧ v = .str (tS (rootOf (lead pf))) t := by
        rw [← hil]
        unfold rootOf
        have e1 : Str.ofString "" = tS [] := by decide
        have e2 : Str.ofString "/" = tS [47] := by decide
        have e3 : Str.ofString "//" = tS [47, 47] := by decide
        rw [e1, e2, e3]
        have : min i0 3 = 0 ∨ min i0 3 = 1 ∨ min i0 3 = 2 ∨ min i0 3 = 3 := by omega
        rcases this with e | e | e | e <;> rw [e] <;> exact ⟨_, _, rfl, rfl⟩
      obtain ⟨rv, rt, hrv, rfl⟩ := hroot
      refine zTupAt (Gd.keep _ _ htb) (by omega) hrv ?_
      repeat' walk_at "z1"
      have hvl : vs.length ≤ 2000 := by rw [hvs.length, List.length_map, List.length_reverse]; simp at hob hsl; omega
      have hrv : Paired (RStr z') vs.reverse (db.2.map drawn) := by have := paired_reverse hvs; rwa [← List.map_reverse, List.reverse_reverse] at this
      have hso : straightOf ps = (stk (decide (i0 ≠ 0)) db.1 db.2).map drawn := by unfold straightOf; rw [hgf, hdb, hil]
      refine iteB (fun h1 => ?_) (fun h1 => ?_)
      · have h1 : i0 ≠ 0 := by simp at h1; omega
        have hso : straightOf ps = db.2.map drawn := by rw [hso, decide_eq_true h1]; rfl
        repeat' walk_at "z1"
        refine zNewF (by assumption) (by walk_at "zsz") ?_
        intro X ye re Ge hye hX ke
        have Am := Am.mono hye
        repeat' walk_at "z1"
        refine zSliceL (by assumption) (Fz.mu (by assumption) (N, LO vs kk) (by simp)).1 .none .none (.int _ _) (by decide) (by omega) (pick_rev _) ?_
        intro Df yf rf Gf hyf hDf kf
        have Am := Am.mono hyf
        refine zAddL (by assumption) (Gf.keep _ _ (hyf _ _ hX)) (Gf.keep _ _ hDf) (by rw [sizeLine_eq]; simp at hvl hob ⊢; omega) ?_
        intro Dg yg rg Gg hyg hDg kg
        repeat' walk_at "z1"
        refine zTup (by assumption) (by walk_at "zsz") ?_
        intro tr yh rh Gh hyh htr kh
        repeat' walk_at "z1"
        refine hQ _ _ _ Gh.drop.done (by walk_at "like") ⟨tr, rt, _, 0, rfl, ?_, ⟨Dg, _, 0, rfl, hyh _ _ hDg, ?_⟩⟩
        · rw [hgf]; exact htr
        · rw [hso]
          exact paired_mono (fun v x h => h) hrv
      · have h1 : i0 = 0 := by simp at h1; omega
        have hso : straightOf ps = List.replicate db.1 dd ++ db.2.map drawn := by
          rw [hso, decide_eq_false (by simpa using h1)]
          have : drawn dd = dd := by decide
          simp [stk, List.map_replicate, this]
        repeat' walk_at "z1"
        refine zNewF (by assumption) (by walk_at "zsz") ?_
        intro X0 yd re0 Gd0 hyd hX0 kd0
        have Am := Am.mono hyd
        repeat' walk_at "z1"
        refine zRep (by assumption) (Gd0.keep _ _ hX0) (by simp at hob hsl; omega) ?_
        intro X ye re Ge hye hX ke
        have Am := Am.mono hye
        repeat' walk_at "z1"
        refine zSliceL (by assumption) (Fz.mu (by assumption) (N, LO vs kk) (by simp)).1 .none .none (.int _ _) (by decide) (by omega) (pick_rev _) ?_
        intro Df yf rf Gf hyf hDf kf
        have Am := Am.mono hyf
        refine zAddL (by assumption) (Gf.keep _ _ (hyf _ _ hX)) (Gf.keep _ _ hDf) (by rw [sizeLine_eq]; simp at hvl hob ⊢; omega) ?_
        intro Dg yg rg Gg hyg hDg kg
        repeat' walk_at "z1"
        refine zTup (by assumption) (by walk_at "zsz") ?_
        intro tr yh rh Gh hyh htr kh
        repeat' walk_at "z1"
        refine hQ _ _ _ Gh.drop.done (by walk_at "like") ⟨tr, rt, _, 0, rfl, ?_, ⟨Dg, _, 0, rfl, hyh _ _ hDg, ?_⟩⟩
        · rw [hgf]; exact htr
        · rw [hso]
          exact paired_append (paired_rep _ (fun _ => ⟨_, by rw [show Str.ofString ".." = tS dd by decide]⟩)) (paired_mono (fun v x h => h) hrv)
end

/-! the plain law, 5: what the parts are -/
def tot (st : List (List Nat) × List Nat) : Nat := (st.1.map (·.length)).sum + st.2.length
theorem tab_mem (d : Nat) : ∀ x ∈ tabL d, ∀ c ∈ x, c < 256 := by
  intro x hx c hc
  simp only [tabL, List.mem_cons, List.not_mem_nil, or_false] at hx
  rcases hx with rfl | rfl | rfl | rfl | rfl | rfl | rfl | rfl <;> simp at hc <;> omega
theorem tab_b256 (d : Nat) : ∀ c ∈ tab d, c < 256 := tab_mem d _ (List.mem_of_getElem? (tab_get d))
theorem partStep_tot (st : List (List Nat) × List Nat) (d : Nat) : tot (partStep st d) ≤ tot st + 3 := by
  have := tab_len d
  unfold partStep tot
  split
  · simp; omega
  · split
    · simp
    · simp
theorem partFold_tot : ∀ (ds : List Nat) (st : List (List Nat) × List Nat), tot (ds.foldl partStep st) ≤ tot st + 3 * ds.length
  | [], st => by simp
  | d :: ds, st => by
    have h1 := partFold_tot ds (partStep st d)
    have h2 := partStep_tot st d
    simp only [List.foldl_cons, List.length_cons]; omega
theorem partFold_b : ∀ (ds : List Nat) (st : List (List Nat) × List Nat), (∀ p ∈ st.1, ∀ c ∈ p, c < 256) → (∀ c ∈ st.2, c < 256) → (∀ p ∈ (ds.foldl partStep st).1, ∀ c ∈ p, c < 256) ∧ (∀ c ∈ (ds.foldl partStep st).2, c < 256)
  | [], st, h1, h2 => ⟨h1, h2⟩
  | d :: ds, st, h1, h2 => by
    have : (∀ p ∈ (partStep st d).1, ∀ c ∈ p, c < 256) ∧ (∀ c ∈ (partStep st d).2, c < 256) := by
      unfold partStep
      split
      · exact ⟨h1, fun c hc => (List.mem_append.mp hc).elim (h2 c) (tab_b256 d c)⟩
      · split
        · exact ⟨fun p hp => (List.mem_append.mp hp).elim (h1 p) (fun e => by simp at e; subst e; exact h2), fun c hc => by simp at hc⟩
        · exact ⟨h1, h2⟩
    exact partFold_b ds _ this.1 this.2
theorem parts_b (ds : List Nat) : ∀ p ∈ partsOf ds, B256 p := by
  have := partFold_b ds ([], []) (by simp) (by simp)
  intro p hp
  rcases List.mem_append.mp hp with hp | hp
  · exact this.1 p hp
  · simp at hp; subst hp; exact this.2
theorem parts_sum (ds : List Nat) : ((partsOf ds).map (·.length)).sum ≤ 3 * ds.length := by
  have := partFold_tot ds ([], [])
  unfold partsOf
  simp [tot] at this
  simp [partSt]; omega
theorem parts_len (ds : List Nat) : (partsOf ds).length ≤ 4 := by
  have := partSt_len ds ([], []) (by simp)
  unfold partsOf
  simp [partSt]; omega
theorem parts_ne (ds : List Nat) : partsOf ds ≠ [] := by simp [partsOf]
theorem sum_map_le (f : List Nat → List Nat) (k : Nat) (hf : ∀ p, (f p).length ≤ k * p.length) : ∀ ps : List (List Nat), ((ps.map f).map (·.length)).sum ≤ k * (ps.map (·.length)).sum
  | [] => by simp
  | p :: ps => by
    have := sum_map_le f k hf ps
    have h1 := hf p
    simp only [List.map_cons, List.sum_cons, Nat.mul_add]; omega
theorem mem_sum_le : ∀ (ps : List (List Nat)) (p : List Nat), p ∈ ps → p.length ≤ (ps.map (·.length)).sum
  | [], _, h => by simp at h
  | q :: ps, p, h => by
    rcases List.mem_cons.mp h with rfl | h
    · simp
    · have := mem_sum_le ps p h; simp; omega
theorem meant_map (ps : List (List Nat)) (h : ∀ p ∈ ps, B256 p) : (ps.map meant).map drawn = ps.map drawn := by
  rw [List.map_map]
  apply List.map_congr_left
  intro p hp
  exact (D_meant p (h p hp)).1
theorem meant_clean (ps : List (List Nat)) (h : ∀ p ∈ ps, B256 p) : ∀ q ∈ ps.map meant, Clean q := by
  intro q hq
  obtain ⟨p, hp, rfl⟩ := List.mem_map.mp hq
  exact (D_meant p (h p hp)).2

theorem byteArr_eq (l : List Nat) : byteArr (l.map fun (n : Nat) => (n : Int)) = bA l := by
  simp only [byteArr, bA, List.map_map]
  congr 1
section
variable {prog : Program} {w : World} {A : Around} {E : Value → Shared → Prop} {s : Shared} {env : Env} {lo : Nat} {z₀ hc z : Heap} {L : Addr} {m : Str → Option Value} {ms : List (Addr × Obj)} {K : Frag} {mg mb : Str → Option Value}
theorem zBytes {a : Addr} {its : List Value} {k : Nat} {l : List Nat} {Q : Value → Shared → Prop} (F : Fz lo z₀ hc z L m ms s.heap) (hh : A.handled = none) (hl : z.get? a = some (LO its k)) (hp : Paired (RNat z) its l) (hb : B256 l) (hn : its.length ≤ 1000000)
    (h : ∀ r s', Fz lo z₀ hc z L m ms s'.heap → Like s s' → PV false l r → Q r s') : wpAny (model prog w) A (call (.type "bytes") [.ref a]) Q E s := by
  refine wpAny_sized ?_
  refine call_bytes_ints ⟨_, F.keep _ _ hl, rfl, k, rfl⟩ (intsAre_of hp) (fun n hn => ?_) (by rw [sizeLine_eq]; omega) hh (fun h' t k hk hsz => ?_)
  · obtain ⟨x, hx, rfl⟩ := List.mem_map.mp hn
    have := hb x hx
    omega
  · rw [byteArr_eq]
    exact h _ { s with heap := h', toks := k } (F.kept hk hsz) ⟨rfl, rfl, rfl⟩ (pv_byt hb)
theorem zStar {a : Addr} {its : List Value} {k : Nat} {Q : List Value → Shared → Prop} (F : Fz lo z₀ hc z L m ms s.heap) (hl : z.get? a = some (LO its k)) (hn : its.length ≤ 1000000)
    (h : ∀ s', Fz lo z₀ hc z L m ms s'.heap → Like s s' → Q its s') : StarOf (model prog w) A E (.ref a) Q s := by
  have D := F.keep _ _ hl
  have hT' : s.TypeIs (.ref a) "list" := ⟨_, D, rfl⟩
  unfold StarOf notIterableAtAll
  refine wpAny_bind (wpAny_specialOf hT' PySem.F.slot_list_iter.lookup (wpAny_pure ⟨rfl, ?_⟩))
  refine wpAny_sized ?_
  refine wpAny_collect_seq (Q := fun v s' => s.heap.objs.size ≤ s'.heap.objs.size → Q v s') a (.inl rfl) D rfl rfl (fun h' hk hsz => ?_) (by rw [List.size_toArray, sizeLine_eq]; omega)
  simpa using h { s with heap := h' } (F.kept hk hsz) ⟨rfl, rfl, rfl⟩
theorem zCallS {M : Model} {pos p : Pos} {f : Addr} {e : Expr} {Q : Value → Shared → Prop} (hk : keepIn K (.ref f) = true) (hz : K.In z)
    (h : wpAny M A (eval e env) (fun v s₁ => StarOf M A E v (fun vs s₂ => K.In s₂.heap ∧ wpAny M A (call (.ref f) vs) Q E s₂) s₁) E s)
    (he : starEach [.Starred e p] env = [(true, eval e env)] := by rfl) : wpAny M A (callWith pos (.ref f) [] (backTo pos (starEach [.Starred e p] env)) []) Q E s :=
  callWith_S hz hk (by simpa using h) he
/-- a slice of a list that is told loosely -/
theorem zSliceI {value slice : Expr} {l : Addr} {its res : List Value} {vl vu vk : Value} {lo' hi' st' : Option Int} {ops : List Value} {Q : Value → Shared → Prop} (F : Fz lo z₀ hc z L m ms s.heap) (hl : s.heap.IsList l its.toArray)
    (pl : IsPart vl lo') (pu : IsPart vu hi') (pk : IsPart vk st') (h0 : st' ≠ some 0) (hn : its.length ≤ 1000000) (hres : slicePick its.toArray lo' hi' st' = res.toArray)
    (h : ∀ D z' s', Fz lo z₀ hc z' L m ms s'.heap → z.StaysIn z' → z'.get? D = some (LO res 0) → Like s s' → Q (.ref D) s')
    (hs : subscripted slice false (.ref l) (.ref s.heap.objs.size) = operate ops (getItem (.ref l) (.ref s.heap.objs.size)) := by with_unfolding_all rfl) :
    wpAny (model prog w) A (subscriptTail value slice (.ref l) (.ref s.heap.objs.size)) Q E { s with heap := s.heap.push { cls := .type "slice", data := .fields #[vl, vu, vk] } } := by
  refine tail_any (Heap.IsList.typeIs (s := { s with heap := s.heap.push { cls := .type "slice", data := .fields #[vl, vu, vk] } }) (hl.push _)) list_getitem_lookup
    (wpAny_getItem_list_slice (hl.push _) (Heap.IsSliceOf.new ..) pl pu pk h0 ?_ (by rw [List.size_toArray, sizeLine_eq]; omega)) hs
  rw [hres]
  obtain ⟨z', F', hz, e⟩ := (F.push { cls := .type "slice", data := .fields #[vl, vu, vk] }).alloc (LO res 0)
  exact h _ z' { s with heap := (s.heap.push { cls := .type "slice", data := .fields #[vl, vu, vk] }).push (LO res 0) } F' hz e ⟨rfl, rfl, rfl⟩
end
/-! data of the law -/
def dTexts (ls : List (List Nat)) : PyData := .list (ls.map fun l => PyData.str (tS l))
def dTwo (p : List Nat × List Nat) : PyData := .tuple [.str (tS p.1), .str (tS p.2)]
theorem rdTexts {z : Heap} {v : Value} {ls : List (List Nat)} (h : LstOf RStr z v ls) : RD z v (dTexts ls) := rd_list (fun v x h => rd_str h) h
theorem rdTwo {z : Heap} {v : Value} {p : List Nat × List Nat} (h : Two true z v p) : RD z v (dTwo p) := by
  obtain ⟨a, x, y, n, rfl, ho, hx, hy⟩ := h
  obtain ⟨t, rfl⟩ := hx.str
  obtain ⟨u, rfl⟩ := hy.str
  exact ⟨_, .tuple ho rfl rfl (.cons (.str _ _) (.cons (.str _ _) .nil))⟩
theorem lay_texts {ls : List (List Nat)} (h : ∀ l ∈ ls, B256 l) : (dTexts ls).canLay0 = true := by
  have : ∀ ls : List (List Nat), (∀ l ∈ ls, B256 l) → PyData.canLayAll0 (ls.map fun l => PyData.str (tS l)) = true := by
    intro ls
    induction ls with
    | nil => intro _; rfl
    | cons l ls ih => intro h; simp [PyData.canLayAll0, b256_lay (h l (by simp)), ih (fun q hq => h q (by simp [hq]))]
  exact this ls h
theorem lay_two {p : List Nat × List Nat} (h1 : B256 p.1) (h2 : B256 p.2) : (dTwo p).canLay0 = true := by
  have e1 := b256_lay h1
  have e2 := b256_lay h2
  simp only [PyData.canLay0] at e1 e2
  simp [dTwo, PyData.canLay0, PyData.canLayAll0, e1, e2]
theorem lay_twos {ps : List (List Nat × List Nat)} (h : ∀ p ∈ ps, B256 p.1 ∧ B256 p.2) : (PyData.list (ps.map dTwo)).canLay0 = true := by
  have : ∀ ps : List (List Nat × List Nat), (∀ p ∈ ps, B256 p.1 ∧ B256 p.2) → PyData.canLayAll0 (ps.map dTwo) = true := by
    intro ps
    induction ps with
    | nil => intro _; rfl
    | cons l ls ih => intro h; simp [PyData.canLayAll0, lay_two (h l (by simp)).1 (h l (by simp)).2, ih (fun q hq => h q (by simp [hq]))]
  exact this ps h
theorem depth_texts (ls : List (List Nat)) : (dTexts ls).depth ≤ 1 := by
  have := depth_map (f := fun l : List Nat => PyData.str (tS l)) (n := 0) (fun _ => Nat.le_refl _) ls
  simp only [dTexts, PyData.depth]; omega
theorem depth_two (p : List Nat × List Nat) : (dTwo p).depth ≤ 1 := by simp [dTwo, PyData.depth, PyData.depthAll]
theorem depth_twos (ps : List (List Nat × List Nat)) : (PyData.list (ps.map dTwo)).depth ≤ 2 := by
  have := depth_map (f := dTwo) (n := 1) depth_two ps
  simp only [PyData.depth]; omega
def IsC (e : Expr) (n : Nat) : Prop := ∃ k p, e = .Constant (.int (n : Int)) k p
section
variable {M : Model} {A : Around} {E : Value → Shared → Prop} {env : Env}
theorem zSpliceInts {z : Heap} {pos : Pos} : ∀ {es : List Expr} {ns : List Nat} (s : Shared) (Q : List Value → Shared → Prop), Paired IsC es ns → (∀ vs tk, Paired (RNat z) vs ns → Q vs { s with toks := tk }) → wpAny M A (spliced (backTo pos (starEach es env))) Q E s
  | _, _, s, Q, .nil, h => zSplice_nil (h [] s.toks .nil)
  | _, _, s, Q, .cons ⟨k, p, e⟩ r, h => by
    subst e
    refine zSplice_cons ?_
    refine wpAny_Constant_int ?_
    refine zSpliceInts (z := z) _ _ r fun vs tk hp => ?_
    exact h _ tk (.cons ⟨_, rfl⟩ hp)
end
theorem zCut {M : Model} {A : Around} {E : Value → Shared → Prop} {s : Shared} {t : Sem Value} {lo : Nat} {z₀ hc z : Heap} {L : Addr} {m : Str → Option Value} {ms : List (Addr × Obj)} {Q : Value → Shared → Prop} (F : Fz lo z₀ hc z L m ms s.heap) (P : Heap → Value → Prop)
    (h1 : wpAny M A t (fun v s' => ∃ z', Fz lo z₀ hc z' L m ms s'.heap ∧ z.StaysIn z' ∧ Like s s' ∧ P z' v) E s)
    (h2 : ∀ v s' z', Fz lo z₀ hc z' L m ms s'.heap → z.StaysIn z' → Like s s' → P z' v → Q v s') : wpAny M A t Q E s :=
  have _ := F
  wpAny_mono h1 (fun v s' ⟨z', F', hz, lk, hp⟩ => h2 v s' z' F' hz lk hp) fun _ _ y => y
theorem readsTexts {z : Heap} {v : Value} {ls : List (List Nat)} (h : LstOf RStr z v ls) : ∃ as, Reads z v (dTexts ls) as := rdTexts h
theorem rdPair {z : Heap} {a : Addr} {r : List Nat} {t : Tok} {x : Value} {k : Nat} {names : List (List Nat)} (ho : z.get? a = some (TO [.str (tS r) t, x] k)) (hx : LstOf RStr z x names) : RD z (.ref a) (.tuple [.str (tS r), dTexts names]) := by
  obtain ⟨as, hr⟩ := readsTexts hx
  exact ⟨_, .tuple ho rfl rfl (.cons (.str _ _) (.cons hr .nil))⟩
theorem lay_pair {r : List Nat} {names : List (List Nat)} (hr : B256 r) (hn : ∀ l ∈ names, B256 l) : (PyData.tuple [.str (tS r), dTexts names]).canLay0 = true := by
  have e1 := b256_lay hr
  have e2 := lay_texts hn
  simp only [PyData.canLay0] at e1
  simp [PyData.canLay0, PyData.canLayAll0, e1, e2]
theorem depth_pair (r : List Nat) (names : List (List Nat)) : (PyData.tuple [.str (tS r), dTexts names]).depth ≤ 5 := by
  have := depth_texts names
  simp [PyData.depth, PyData.depthAll]; omega

/-! the plain law, 6: sizes; the answer -/
def sumc (ls : List (List Nat)) : Nat := (ls.map (·.length)).sum + ls.length
theorem sumc_app (a b : List (List Nat)) : sumc (a ++ b) = sumc a + sumc b := by simp [sumc]; omega
theorem sumc_step (ab : Bool) (new : List (List Nat)) (c : List Nat) : sumc (normStep ab new c) ≤ sumc new + (c.length + 1) := by
  unfold normStep
  split
  · omega
  · split
    · rw [sumc_app]; simp [sumc]
    · have h : sumc new.dropLast ≤ sumc new := by
        by_cases hn : new = []
        · subst hn; simp [sumc]
        · conv => rhs; rw [← List.dropLast_concat_getLast hn]
          rw [sumc_app]; omega
      omega
theorem sumc_fold (ab : Bool) : ∀ (cs new : List (List Nat)), sumc (cs.foldl (normStep ab) new) ≤ sumc new + sumc cs
  | [], new => by simp
  | c :: cs, new => by
    have h1 := sumc_fold ab cs (normStep ab new c)
    have h2 := sumc_step ab new c
    have h3 : sumc (c :: cs) = c.length + 1 + sumc cs := by simp [sumc]; omega
    rw [List.foldl_cons]; omega
theorem normP_len (l : List Nat) : (normP l).length ≤ l.length + 4 := by
  unfold normP
  split
  · simp
  · have h1 := rootP_len l
    have h2 := BM.jn_length ((cut47 (rootP l).2).foldl (normStep (decide ((rootP l).1 ≠ []))) [])
    have h3 := sumc_fold (decide ((rootP l).1 ≠ [])) (cut47 (rootP l).2) []
    have h4 := cut_sum (rootP l).2
    rw [← cut47_eq] at h4
    have h5 : sumc (cut47 (rootP l).2) = (rootP l).2.length + 1 := h4
    have h6 : sumc [] = 0 := rfl
    have h7 : (jn [47] ((cut47 (rootP l).2).foldl (normStep (decide ((rootP l).1 ≠ []))) [])).length ≤ (rootP l).2.length + 1 := by
      refine Nat.le_trans h2 ?_
      show sumc _ ≤ _
      omega
    unfold orDot
    split
    · simp
    · rw [List.length_append]; omega
theorem compsOf_fold (l : List Nat) : compsOf l = (Np l).foldl (normStep (decide (lead l ≠ 0))) [] := by rw [norm_debt0]; rfl
theorem compsOf_len (l : List Nat) : (compsOf l).length ≤ l.length + 1 := by
  rw [compsOf_fold]
  have h1 := fold_len (decide (lead l ≠ 0)) (Np l) []
  have h2 : (Np l).length ≤ (cutR l).length := List.length_filter_le _ _
  have h3 := cut_sum l
  simp only [List.length_nil, Nat.zero_add] at h1; omega
theorem jn_drawn_len (ls : List (List Nat)) : (jn [47] (ls.map drawn)).length ≤ 3 * sumc ls := by
  have h1 := BM.jn_length (ls.map drawn)
  have h2 := sum_map_le drawn 3 drawn_len ls
  rw [List.length_map] at h1
  unfold sumc; omega
theorem compsOf_sumc (l : List Nat) : sumc (compsOf l) ≤ l.length + 1 := by
  rw [compsOf_fold, ← show _ = (Np l).foldl (normStep (decide (lead l ≠ 0))) [] from norm_filter (decide (lead l ≠ 0)) (cutR l) []]
  have h1 := sumc_fold (decide (lead l ≠ 0)) (cutR l) []
  have h2 := cut_sum l
  have h3 : sumc (cutR l) = l.length + 1 := h2
  have h4 : sumc [] = 0 := rfl
  omega
theorem joinP_len : ∀ (ps : List (List Nat)), (joinP ps).length ≤ (ps.map (·.length)).sum + ps.length
  | [] => by simp [joinP]
  | a :: ps => by
    have := joinFold_len ps a
    simp only [joinP, List.map_cons, List.sum_cons, List.length_cons]; omega
theorem paired_uncons {α β : Type} {F : α → β → Prop} {vs : List α} {ls : List β} (h : Paired F vs ls) (hn : ls ≠ []) : ∃ v vr l lr, vs = v :: vr ∧ ls = l :: lr ∧ F v l ∧ Paired F vr lr := by
  cases h with
  | nil => exact absurd rfl hn
  | cons h t => exact ⟨_, _, _, _, rfl, rfl, h, t⟩

def lawStmt : Option Stmt := PySem.Challenge.pw_pd0009_01.main.body.getLast?
def lawBody : List Stmt := match lawStmt with | some (.FunctionDef _ _ b _ _ _ _ _ _ _) => b | _ => []
def lawScope : Scope := match lawStmt with | some (.FunctionDef _ _ _ _ _ _ sc _ _ _) => sc | _ => { kind := .function, names := [], isGenerator := false, isCoroutine := false, more := [] }
theorem take_map {α β : Type} {ps : List α} {i : Nat} {p : α} (f : α → β) (h : ps[i]? = some p) : (ps.take (i + 1)).map f = (ps.take i).map f ++ [f p] := by
  rw [List.take_add_one, h]; simp
theorem mono_Two {k : Bool} {z z' : Heap} {v : Value} {p : List Nat × List Nat} (hz : z.StaysIn z') (h : Two k z v p) : Two k z' v p :=
  let ⟨a, x, y, n, e, ho, hx, hy⟩ := h; ⟨a, x, y, n, e, hz _ _ ho, hx, hy⟩
def cutOf (q : List Nat) : List Nat × List Nat := (drawn (partedP q).1, drawn (partedP q).2)
theorem sumc_map_le (xs ys : List (List Nat)) (h : xs = ys.map drawn) : sumc xs ≤ 3 * sumc ys := by
  subst h
  have h2 := sum_map_le drawn 3 drawn_len ys
  unfold sumc; rw [List.length_map]; omega
theorem ints_mem : ∀ {vs : List Value} {ns : List Int}, IntsAre vs ns → ∀ v ∈ vs, ∃ n t, v = Value.int n t
  | _, _, .nil, v, h => by simp at h
  | _, _, .cons n t r, v, h => by
    rcases List.mem_cons.mp h with rfl | h
    · exact ⟨n, t, rfl⟩
    · exact ints_mem r v h
section
variable {prog : Program} {w : World} {A : Around} {E : Value → Shared → Prop} {s : Shared} {lo : Nat} {z₀ hc z : Heap} {L : Addr} {m : Str → Option Value} {mg mb : Str → Option Value}
set_option maxHeartbeats 4000000
theorem law_body {a fa : Addr} {cd : Value} {vs : List Value} {ns : List Int} {Q : Flow → Shared → Prop} (Am : Amb (KK w) mg mb z) (R : Rm A 8) (F : Fz lo z₀ hc z L m [] s.heap) (hm : m (Str.ofString "script") = some (.ref a)) (ha : z.IsList a vs.toArray) (hi : IntsAre vs ns) (hn : ns.length ≤ 63)
    (hQ : ∀ z' m' s', Fz lo z₀ hc z' L m' [] s'.heap → Like s s' → Q (.ret (.bool true)) s') : wpAny (model prog w) A (execs lawBody (envOf (Str.ofString "law") lawScope L fa cd)) Q E s := by
  have hvl : vs.length = ns.length := hi.length
  conv in lawBody => whnf
  conv in lawScope => whnf
  repeat' walk_at "z1"
  refine zAssignComp rfl ?_
  repeat' walk_at "z1"
  have haL : s.heap.IsList a vs.toArray := ha.at fun o e => F.keep _ _ e
  refine zSliceI (by assumption) haL .none (.int _ _) .none (by simp) (by omega) (pick_cut _ _ _) ?_
  intro D1 z1 s1 F1 hz1 hD1 l1
  have Am := Am.mono hz1
  rw [show cutP none (some 10) vs = vs.take 10 from cutP_to 10 vs] at hD1
  have hvi : ∀ v ∈ vs.take 10, ∃ n t, v = Value.int n t := fun v hv => ints_mem hi v (List.mem_of_mem_take hv)
  generalize hvw : vs.take 10 = vw at *
  have hwl : vw.length ≤ 10 := by rw [← hvw]; simp; omega
  repeat' walk_at "z1"
  refine zIterL (by assumption) hD1 R.handled ?_
  intro I1 o1 s2 W1 O1 F2 st1 l2
  refine zCompRunU W1 O1 F2 st1 (by rw [sizeLine_eq]; omega) (fun i z' ys => ∃ cs : List Nat, cs.length = i ∧ Paired (RNat z') ys cs) ⟨[], rfl, .nil⟩ (fun z z' ys k h => h) ?_ ?_
  · intro i v z' ys C mc s' E' loC hcC hi hv hz' hJ G l'
    obtain ⟨cs, hcs, hys⟩ := hJ
    obtain ⟨n, t, rfl⟩ := hvi v (List.mem_of_getElem? hv)
    have Am := Am.mono hz'
    refine wpAny_tests_nil ?_
    repeat' walk_at "z1"
    refine call_int_int ?_
    repeat' walk_at "z1"
    refine pow_int_small (by decide) (by decide) (by decide) ?_
    refine mod_int' (by decide) ?_
    obtain ⟨c, hc⟩ : ∃ c : Nat, n.fmod (10 ^ (6 : Int).toNat) = (c : Int) := ⟨(n.fmod (10 ^ (6 : Int).toNat)).toNat, (Int.toNat_of_nonneg (Int.fmod_nonneg_of_pos _ (by decide))).symm⟩
    rw [hc]
    exact ⟨z', _, by assumption, ⟨cs ++ [c], by simp [hcs], paired_append hys (.cons ⟨_, rfl⟩ .nil)⟩, by walk_at "like"⟩
  intro D z2 ys k s3 F3 hz2 hD hJ l3
  obtain ⟨cs, hcs, hys⟩ := hJ
  have Am := Am.mono hz2
  have hcl : cs.length ≤ 10 := by omega
  have hyl : ys.length ≤ 10 := by rw [hys.length]; omega
  clear hvi hD1 W1 O1 F2 st1 hcs haL hi ha
  repeat' walk_at "z1"
  refine zSliceL (by assumption) (Fz.keep (by assumption) _ _ hD) .none (.int _ _) .none (by simp) (by omega) (pick_cut _ _ _) ?_
  intro D2 z3 s4 F4 hz3 hD2 l4
  have Am := Am.mono hz3
  rw [show cutP none (some 5) ys = ys.take 5 from cutP_to 5 ys] at hD2
  refine List_ ?_
  refine zSpliceInts (z := z3) (ns := [3, 6, 2, 2, 1, 7, 3, 0, 13, 4, 1, 2, 3, 2, 3]) _ _ ?_ ?_
  · repeat' (first | exact Paired.nil | refine Paired.cons ⟨_, _, rfl⟩ ?_)
  intro cvs ctk hcv
  have hcvl : cvs.length = 15 := hcv.length
  refine zNewF (by assumption) (by rw [sizeLine_eq]; omega) ?_
  intro D3 z4 s5 F5 hz4 hD3 l5
  have Am := Am.mono hz4
  refine zAddL (by assumption) (F5.keep _ _ (hz4 _ _ hD2)) (F5.keep _ _ hD3) (by rw [sizeLine_eq]; simp; omega) ?_
  intro D4 z5 s6 F6 hz5 hD4 l6
  have Am := Am.mono hz5
  repeat' walk_at "z1"
  refine zSliceL (by assumption) (Fz.keep (by assumption) _ _ (hz5 _ _ (hz4 _ _ (hz3 _ _ hD)))) (.int _ _) .none .none (by simp) (by omega) (pick_cut _ _ _) ?_
  intro D5 z6 s7 F7 hz6 hD5 l7
  have Am := Am.mono hz6
  rw [show cutP (some 5) none ys = ys.drop 5 from cutP_from 5 ys] at hD5
  refine zAddL (by assumption) (F7.keep _ _ (hz6 _ _ hD4)) (F7.keep _ _ hD5) (by rw [sizeLine_eq]; simp; omega) ?_
  intro D6 z7 s8 F8 hz7 hD6 l8
  have Am := Am.mono hz7
  repeat' walk_at "z1"
  refine parts_spec Am (Fz.keep (by assumption)) (R.le (by omega)) (cs := cs.take 5 ++ [3, 6, 2, 2, 1, 7, 3, 0, 13, 4, 1, 2, 3, 2, 3] ++ cs.drop 5) ⟨D6, _, 0, rfl, hD6, ?_⟩ (by simp; omega) ?_
  · refine paired_append (paired_append (paired_mono (fun _ _ h => h) (paired_take hys 5)) ?_) (paired_mono (fun _ _ h => h) (paired_drop hys 5))
    exact paired_mono (fun _ _ h => h) hcv
  intro z8 s9 rp st8 l9 hrp
  have F := Fz.step (by assumption) st8
  have Am := Am.mono st8.zz
  have hdl : (cs.take 5 ++ [3, 6, 2, 2, 1, 7, 3, 0, 13, 4, 1, 2, 3, 2, 3] ++ cs.drop 5).length ≤ 25 := by simp; omega
  generalize hds : cs.take 5 ++ [3, 6, 2, 2, 1, 7, 3, 0, 13, 4, 1, 2, 3, 2, 3] ++ cs.drop 5 = ds at *
  have hps := parts_sum ds
  have hpl := parts_len ds
  have hpn := parts_ne ds
  have hpb := parts_b ds
  generalize hpp : partsOf ds = ps at *
  clear hys hD hD2 hD3 hD4 hD5 hD6 hds hpp hvw
  have hpl2 : ∀ p ∈ ps, p.length ≤ 75 := fun p hp => by have := mem_sum_le ps p hp; omega
  obtain ⟨pa, pits, pk, rfl, hpo, hpp⟩ := hrp
  have hpll : pits.length = ps.length := hpp.length
  repeat' walk_at "z1"
  refine zAssignComp rfl ?_
  repeat' walk_at "z1"
  refine zIterL (by assumption) hpo R.handled ?_
  intro I2 o2 s10 W2 O2 F10 st2 l10
  refine zCompRunU W2 O2 F10 st2 (by rw [sizeLine_eq]; omega) (fun i z' ys => Paired (LstOf RNat z') ys ((ps.take i).map meant)) (by simpa using Paired.nil) (fun z z' ys k h => paired_mono (fun v x => mono_Lst mono_RNat _ _ v x k) h) ?_ ?_
  · intro i v z' ys C mc s' E' loC hcC hi hv hz' hJ G l'
    have Am := Am.mono hz'
    obtain ⟨p, hp, hpv⟩ := paired_get hpp hv
    have := hpl2 p (List.mem_of_getElem? hp)
    refine wpAny_tests_nil ?_
    repeat' walk_at "z1"
    refine meant_spec Am (Fz.keep (by assumption)) (R.le (by omega)) (mono_Lst mono_RNat _ _ _ _ hz' hpv) (by omega) ?_
    intro z'' s'' r st l'' hr
    refine ⟨z'', _, G.step st, ?_, by walk_at "like"⟩
    rw [take_map meant hp]
    exact paired_append (paired_mono (fun v x => mono_Lst mono_RNat _ _ v x st.zz) hJ) (.cons hr .nil)
  intro mD z9 mys mk s11 F11 hz9 hmD hmJ l11
  rw [hpll, List.take_length] at hmJ
  have Am := Am.mono hz9
  have hpo := hz9 _ _ hpo
  have hpp : Paired (LstOf RNat z9) pits ps := paired_mono (fun v x => mono_Lst mono_RNat _ _ v x hz9) hpp
  have hqc := meant_clean ps hpb
  have hql : ∀ q ∈ ps.map meant, q.length ≤ 150 := by
    intro q hq
    obtain ⟨p, hp, rfl⟩ := List.mem_map.mp hq
    have h1 := meant_len p
    have h2 := hpl2 p hp
    omega
  have hqs := sum_map_le meant 2 meant_len ps
  have hqd := meant_map ps hpb
  have hqn : ps.map meant ≠ [] := by simpa using hpn
  have hqll : (ps.map meant).length ≤ 4 := by simpa using hpl
  generalize hqq : ps.map meant = qs at *
  clear W2 O2 F10 st2
  repeat' walk_at "z1"
  refine straight_spec Am (Fz.keep (by assumption)) (R.le (by omega)) (ps := qs) ⟨mD, mys, mk, rfl, hmD, hmJ⟩ hqll hqn (fun q hq => by have := hql q hq; omega) (fun q hq => clean_b256 (hqc q hq)) ?_
  intro z10 s12 rst st12 l12 hcl
  have F := Fz.step (by assumption) st12
  have Am := Am.mono st12.zz
  obtain ⟨ta, rt, nv, tk, rfl, hta, hnv⟩ := hcl
  refine zAssignT F hta R.handled ?_
  intro s13 F13 l13
  have hpo := st12.zz _ _ hpo
  have hpp : Paired (LstOf RNat z10) pits ps := paired_mono (fun v x => mono_Lst mono_RNat _ _ v x st12.zz) hpp
  have hmD := st12.zz _ _ hmD
  have hmJ : Paired (LstOf RNat z10) mys qs := paired_mono (fun v x => mono_Lst mono_RNat _ _ v x st12.zz) hmJ
  have hmll : mys.length = qs.length := hmJ.length
  repeat' walk_at "z1"
  refine zAssignComp rfl ?_
  repeat' walk_at "z1"
  refine zIterL (by assumption) hmD R.handled ?_
  intro I3 o3 s14 W3 O3 F14 st3 l14
  refine zCompRunU W3 O3 F14 st3 (by rw [sizeLine_eq]; omega) (fun i z' ys => Paired (Two true z') ys ((qs.take i).map cutOf)) (by simpa using Paired.nil) (fun z z' ys k h => paired_mono (fun v x => mono_Two k) h) ?_ ?_
  · intro i v z' ys C mc s' E' loC hcC hi hv hz' hJ G l'
    have Am := Am.mono hz'
    obtain ⟨q, hq, hqv⟩ := paired_get hmJ hv
    have := hql q (List.mem_of_getElem? hq)
    have := hqc q (List.mem_of_getElem? hq)
    refine wpAny_tests_nil ?_
    repeat' walk_at "z1"
    refine parted_spec Am (Fz.keep (by assumption)) (R.le (by omega)) (mono_Lst mono_RNat _ _ _ _ hz' hqv) (by omega) (clean_b256 (by assumption)) ?_
    intro z'' s'' r st l'' hr
    refine ⟨z'', _, G.step st, ?_, by walk_at "like"⟩
    rw [take_map cutOf hq]
    exact paired_append (paired_mono (fun v x => mono_Two st.zz) hJ) (.cons hr .nil)
  intro kD z11 kys kk s15 F15 hz11 hkD hkJ l15
  rw [hmll, List.take_length] at hkJ
  have Am := Am.mono hz11
  have hpo := hz11 _ _ hpo
  have hpp : Paired (LstOf RNat z11) pits ps := paired_mono (fun v x => mono_Lst mono_RNat _ _ v x hz11) hpp
  have hmD := hz11 _ _ hmD
  have hmJ : Paired (LstOf RNat z11) mys qs := paired_mono (fun v x => mono_Lst mono_RNat _ _ v x hz11) hmJ
  have hnv := mono_Lst mono_RStr _ _ _ _ hz11 hnv
  clear W3 O3 F14 st3
  repeat' walk_at "z1"
  refine zAssignComp rfl ?_
  repeat' walk_at "z1"
  refine zIterL (by assumption) hpo R.handled ?_
  intro I4 o4 s16 W4 O4 F16 st4 l16
  refine zCompRunU W4 O4 F16 st4 (by rw [sizeLine_eq]; omega) (fun i z' ys => Paired (fun v l => PV true l v) ys ((ps.take i).map drawn)) (by simpa using Paired.nil) (fun z z' ys k h => h) ?_ ?_
  · intro i v z' ys C mc s' E' loC hcC hi hv hz' hJ G l'
    have Am := Am.mono hz'
    obtain ⟨p, hp, hpv⟩ := paired_get hpp hv
    have hp75 := hpl2 p (List.mem_of_getElem? hp)
    have hpB := hpb p (List.mem_of_getElem? hp)
    obtain ⟨xa, xits, xk, rfl, hxo, hxp⟩ := mono_Lst mono_RNat _ _ _ _ hz' hpv
    have hxl : xits.length = p.length := hxp.length
    refine wpAny_tests_nil ?_
    repeat' walk_at "z1"
    refine zListComp rfl ?_
    repeat' walk_at "z1"
    refine zIterL (by assumption) hxo R.handled ?_
    intro I5 o5 s17 W5 O5 F17 st5 l17
    refine zCompRun W5 O5 F17 st5 (by rw [sizeLine_eq]; omega) (fun i z' ys => Paired (fun v c => IsCode v c) ys (p.take i)) (by simpa using Paired.nil) (fun z z' ys k h => h) ?_ ?_
    · intro i v z' ys C mc s' E' loC hcC hi hv hz' hJ G l'
      have Am := Am.mono hz'
      obtain ⟨c, hc, ⟨t, rfl⟩⟩ := paired_get hxp hv
      have hcB := hpB c (List.mem_of_getElem? hc)
      refine wpAny_tests_nil ?_
      repeat' walk_at "z1"
      refine chr_of_range (by omega) (by omega) ?_
      refine ⟨z', _, by assumption, ?_, by walk_at "like"⟩
      rw [List.take_add_one, hc]
      exact paired_append hJ (.cons (.inr ⟨_, rfl⟩) .nil)
    · intro xD z'' xys xkk s18 F18 hz'' hxD hxJ l18
      rw [hxl, List.take_length] at hxJ
      have Am := Am.mono hz''
      repeat' walk_at "z1"
      refine shown_list Am (Fz.keep (by assumption)) (R.le (by omega)) (cs := p) ⟨xD, _, _, rfl, hxD, hxJ⟩ (by omega) hpB ?_
      intro z5 s19 t19 st19 l19
      refine ⟨z5, _, F18.step st19, ?_, by walk_at "like"⟩
      rw [take_map drawn hp]
      exact paired_append hJ (.cons (pv_str (drawn_b256 hpB)) .nil)
  intro gD z12 gys gk s20 F20 hz12 hgD hgJ l20
  rw [hpll, List.take_length] at hgJ
  have Am := Am.mono hz12
  have hmD := hz12 _ _ hmD
  have hmJ : Paired (LstOf RNat z12) mys qs := paired_mono (fun v x => mono_Lst mono_RNat _ _ v x hz12) hmJ
  have hnv := mono_Lst mono_RStr _ _ _ _ hz12 hnv
  have hkD := hz12 _ _ hkD
  have hkJ : Paired (Two true z12) kys (qs.map cutOf) := paired_mono (fun v x => mono_Two hz12) hkJ
  clear W4 O4 F16 st4
  repeat' walk_at "z1"
  refine zAssignComp rfl ?_
  repeat' walk_at "z1"
  refine zIterL (by assumption) hmD R.handled ?_
  intro I6 o6 s21 W6 O6 F21 st6 l21
  refine zCompRunU W6 O6 F21 st6 (by rw [sizeLine_eq]; omega) (fun i z' ys => Paired (fun v l => PV false l v) ys (qs.take i)) (by simpa using Paired.nil) (fun z z' ys k h => h) ?_ ?_
  · intro i v z' ys C mc s' E' loC hcC hi hv hz' hJ G l'
    have Am := Am.mono hz'
    obtain ⟨q, hq, hqv⟩ := paired_get hmJ hv
    have := hql q (List.mem_of_getElem? hq)
    have := hqc q (List.mem_of_getElem? hq)
    obtain ⟨xa, xits, xk, rfl, hxo, hxp⟩ := mono_Lst mono_RNat _ _ _ _ hz' hqv
    refine wpAny_tests_nil ?_
    repeat' walk_at "z1"
    refine zBytes (by assumption) R.handled hxo hxp (clean_b256 (by assumption)) (by rw [hxp.length]; omega) ?_
    intro r s'' F'' l'' hr
    refine ⟨z', _, by assumption, ?_, by walk_at "like"⟩
    rw [List.take_add_one, hq]
    exact paired_append hJ (.cons hr .nil)
  intro oD z13 oys ok s22 F22 hz13 hoD hoJ l22
  rw [hmll, List.take_length] at hoJ
  have Am := Am.mono hz13
  have hnv := mono_Lst mono_RStr _ _ _ _ hz13 hnv
  have hkD := hz13 _ _ hkD
  have hkJ : Paired (Two true z13) kys (qs.map cutOf) := paired_mono (fun v x => mono_Two hz13) hkJ
  have hgD := hz13 _ _ hgD
  clear W6 O6 F21 st6 hmJ hmD hpp hpo
  repeat' walk_at "z1"
  have hoyl : oys.length = qs.length := hoJ.length
  refine zCallS (keep_join _) Am.kin ?_
  repeat' walk_at "z1"
  refine zStar (by assumption) hoD (by omega) ?_
  intro s23 F23 l23
  repeat' walk_at "z1"
  obtain ⟨v0, vr, q0, qr, hov, hoq, hv0, hvr⟩ := paired_uncons hoJ hqn
  have hq0 : q0.length + (qr.map (·.length)).sum = (qs.map (·.length)).sum := by rw [hoq]; simp
  have hqrl : qr.length + 1 = qs.length := by rw [hoq]; simp
  rw [hov]
  refine join_spec Am (Fz.keep (by assumption)) (R.le (by omega)) hv0 hvr (by omega) (by omega) ?_
  intro z14 s24 rj st24 l24 hrj
  rw [← hoq] at hrj
  have F := Fz.step (by assumption) st24
  have Am := Am.mono st24.zz
  have hjl := joinP_len qs
  repeat' walk_at "z1"
  refine normpath_spec Am (Fz.keep (by assumption)) (R.le (by omega)) hrj (by omega) ?_
  intro z15 s25 rn st25 l25 hrn
  have F := Fz.step (by assumption) st25
  have Am := Am.mono st25.zz
  have hz1315 := stays_trans st24.zz st25.zz
  have hnv := mono_Lst mono_RStr _ _ _ _ hz1315 hnv
  have hkD := hz1315 _ _ hkD
  have hkJ : Paired (Two true z15) kys (qs.map cutOf) := paired_mono (fun v x => mono_Two hz1315) hkJ
  have hgD := hz1315 _ _ hgD
  have hoD := hz1315 _ _ hoD
  repeat' walk_at "z1"
  have hgyl : gys.length = ps.length := by rw [hgJ.length, List.length_map]
  have hgs := sum_map_le drawn 3 drawn_len ps
  have hln := law_norm qs hqc hqn
  rw [← hqd] at hgJ hgs
  have hjc := hln.2.2.2
  have hstq : straightOf qs = (compsOf (joinP qs)).map drawn := by unfold straightOf; rw [hln.2.2.1]
  refine zCallS (keep_join _) Am.kin ?_
  repeat' walk_at "z1"
  refine zStar (by assumption) hgD (by omega) ?_
  intro s26 F26 l26
  repeat' walk_at "z1"
  obtain ⟨v1, v1r, g0, gr, hgv, hgq, hv1, hv1r⟩ := paired_uncons hgJ (by simpa using hqn)
  have hg0 : g0.length + (gr.map (·.length)).sum = ((qs.map drawn).map (·.length)).sum := by rw [hgq]; simp
  have hgrl : gr.length + 1 = (qs.map drawn).length := by rw [hgq]; simp
  rw [List.length_map] at hgrl
  rw [hgv]
  refine join_spec Am (Fz.keep (by assumption)) (R.le (by omega)) hv1 hv1r (by omega) (by omega) ?_
  intro z16 s27 rj2 st27 l27 hrj2
  rw [← hgq] at hrj2
  have F := Fz.step (by assumption) st27
  have Am := Am.mono st27.zz
  have hjl2 := joinP_len (qs.map drawn)
  rw [List.length_map] at hjl2
  repeat' walk_at "z1"
  refine normpath_spec Am (Fz.keep (by assumption)) (R.le (by omega)) hrj2 (by omega) ?_
  intro z17 s28 rn2 st28 l28 hrn2
  have F := Fz.step (by assumption) st28
  have Am := Am.mono st28.zz
  have hz1517 := stays_trans st27.zz st28.zz
  have hnv := mono_Lst mono_RStr _ _ _ _ hz1517 hnv
  have hkD := hz1517 _ _ hkD
  have hkJ : Paired (Two true z17) kys (qs.map cutOf) := paired_mono (fun v x => mono_Two hz1517) hkJ
  have hgD := hz1517 _ _ hgD
  have hoD := hz1517 _ _ hoD
  obtain ⟨na, nits, nk, rfl, hno, hnp⟩ := hnv
  have hcs1 := compsOf_sumc (joinP qs)
  have hjd := jn_drawn_len (compsOf (joinP qs))
  rw [← hstq] at hjd
  have hsb : ∀ p ∈ straightOf qs, B256 p := by
    rw [hstq]
    intro p hp
    obtain ⟨c, hc, rfl⟩ := List.mem_map.mp hp
    exact drawn_b256 (clean_b256 ((comps_mem hc).2.2 hjc))
  have hrb : B256 (rootOf (lead (qs.getD (firstP qs) []))) := clean_b256 (root_clean _)
  have hrl : (rootOf (lead (qs.getD (firstP qs) []))).length ≤ 2 := by rcases rootOf_cases (lead (qs.getD (firstP qs) [])) with e | e | e <;> rw [e] <;> simp
  have hss := sumc_map_le (straightOf qs) (compsOf (joinP qs)) hstq
  have hss : sumc (straightOf qs) ≤ 2000 := by omega
  unfold sumc at hss
  repeat' walk_at "z1o"
  refine wpAny_mono (Q := fun v s' => PV true (orDot (rootOf (lead (qs.getD (firstP qs) [])) ++ jn [47] (straightOf qs))) v ∧ s'.heap = s28.heap ∧ Like s28 s') ?_ (fun v s' q => ?_) (fun _ _ y => y)
  · repeat' walk_at "z1"
    refine GM.join ?_
    refine callWith_method1 ?_
    repeat' walk_at "z1"
    refine zJoinS (z := z17) (sp := [47]) (ls := straightOf qs) (Fz.keep (by assumption)) hno hnp (by decide) (by simp; omega) ?_
    intro tj tkj
    refine pAdd (k := true) (pv_str hrb) (pv_str (b256_jn _ hsb)) (by omega) ?_
    intro ra s29 h29 l29 hra
    repeat' walk_at "z1"
    refine pTruth hra (by rw [List.length_append]; omega) ?_
    intro s30 h30 l30
    refine iteB (fun h => ?_) (fun h => ?_)
    · have h : ¬ (rootOf (lead (qs.getD (firstP qs) [])) ++ jn [47] (straightOf qs)) = [] := of_decide_eq_true h
      refine ⟨by rw [orDot, if_neg h]; exact hra, h30.trans h29, by walk_at "like"⟩
    · have h : (rootOf (lead (qs.getD (firstP qs) [])) ++ jn [47] (straightOf qs)) = [] := by simpa using h
      repeat' walk_at "z1"
      refine ⟨by rw [orDot, if_pos h]; exact pv_str (l := [46]) (b256_of rfl), h30.trans h29, by walk_at "like"⟩
  obtain ⟨hdv, hdh, hdl⟩ := q
  have F := Fz.onto hdh F
  repeat' walk_at "z1"
  refine pEq R hrn2 hdv ?_
  have heq1 : normP (joinP (qs.map drawn)) = orDot (rootOf (lead (qs.getD (firstP qs) [])) ++ jn [47] (straightOf qs)) := hln.1
  rw [decide_eq_true heq1]
  repeat' walk_at "z1"
  obtain ⟨kc, cr, cn, hkc, hclimb, hcr, hcn⟩ := law_climb (l := joinP qs)
  have hcl := compsOf_len (joinP qs)
  have hnl := normP_len (joinP qs)
  have hld : lead (joinP qs) = lead (qs.getD (firstP qs) []) := (join_chars qs.length qs rfl hqn).2
  rw [hld] at hcr hcn
  refine climbed_spec Am (Fz.keep (by assumption)) (R.le (by omega)) hrn (by omega) hclimb (by omega) ?_
  intro z18 s31 rcv st31 l31 hcv
  have F := Fz.step (by assumption) st31
  have Am := Am.mono st31.zz
  obtain ⟨ca, ct, cx, ck, rfl, hco, hcx⟩ := hcv
  have hno := st31.zz _ _ hno
  have hnp : Paired (RStr z18) nits (straightOf qs) := paired_mono (fun v x => mono_RStr _ _ v x st31.zz) hnp
  have hnl2 : nits.length = (straightOf qs).length := hnp.length
  have hsn : (straightOf qs = []) ↔ compsOf (joinP qs) = [] := by rw [hstq]; simp
  have hkD := st31.zz _ _ hkD
  have hkJ : Paired (Two true z18) kys (qs.map cutOf) := paired_mono (fun v x => mono_Two st31.zz) hkJ
  have hgD := st31.zz _ _ hgD
  have hoD := st31.zz _ _ hoD
  rw [hcr, D_root, ] at hco
  rw [← List.map_reverse, hcn] at hcx
  generalize hX : ((if compsOf (joinP qs) = [] then (if rootOf (lead (qs.getD (firstP qs) [])) = [] then [[46]] else []) else compsOf (joinP qs)) : List (List Nat)).map drawn = X at hcx
  repeat' walk_at "z1o"
  refine zCut (by assumption) (fun z' v => LstOf RStr z' v X) ?_ ?_
  · repeat' walk_at "z1"
    refine zTruthL (Fz.keep (by assumption) _ _ hno) (by omega) ?_
    intro s32 h32 l32
    have F := Fz.onto h32 (by assumption)
    refine iteB (fun h => ?_) (fun h => ?_)
    · have h : nits ≠ [] := of_decide_eq_true h
      have h' : ¬ compsOf (joinP qs) = [] := fun e => h (List.length_eq_zero_iff.mp (by rw [hnl2, hsn.mpr e]; rfl))
      refine ⟨z18, by assumption, stays_refl _, by walk_at "like", ⟨na, nits, nk, rfl, hno, ?_⟩⟩
      rw [← hX, if_neg h', ← hstq]; exact hnp
    · have h : nits = [] := by simpa using h
      have h' : compsOf (joinP qs) = [] := hsn.mp (List.length_eq_zero_iff.mp (by rw [← hnl2, h]; rfl))
      rw [if_pos h'] at hX
      repeat' walk_at "z1"
      refine pTruth (k := true) (pv_str hrb) (by omega) ?_
      intro s34 h34 l34
      have F := Fz.onto h34 (by assumption)
      refine iteB (fun h2 => ?_) (fun h2 => ?_)
      · have h2 : ¬ rootOf (lead (qs.getD (firstP qs) [])) = [] := of_decide_eq_true h2
        rw [if_neg h2] at hX
        repeat' walk_at "z1"
        refine zNewF (by assumption) (by walk_at "zsz") ?_
        intro Da ya ra Ga hya hDa ka
        exact ⟨ya, Ga, hya, by walk_at "like", ⟨Da, _, 0, rfl, hDa, by rw [← hX]; exact .nil⟩⟩
      · have h2 : rootOf (lead (qs.getD (firstP qs) [])) = [] := by simpa using h2
        rw [if_pos h2] at hX
        repeat' walk_at "z1"
        refine zNewF (by assumption) (by walk_at "zsz") ?_
        intro Da ya ra Ga hya hDa ka
        exact ⟨ya, Ga, hya, by walk_at "like", ⟨Da, _, 0, rfl, hDa, by rw [← hX]; exact .cons ⟨_, by rw [show Str.ofString "." = tS (drawn [46]) by decide]⟩ .nil⟩⟩
  intro v2 s33 z19 F19 hz19 l33 hv2
  have hXb : ∀ l ∈ X, B256 l := by
    intro l hl
    rw [← hX] at hl
    obtain ⟨c, hc, rfl⟩ := List.mem_map.mp hl
    refine drawn_b256 ?_
    split at hc
    · split at hc
      · simp at hc; subst hc; exact b256_of rfl
      · simp at hc
    · exact clean_b256 ((comps_mem hc).2.2 hjc)
  have Am := Am.mono hz19
  repeat' walk_at "z1"
  refine zTup (by assumption) (by walk_at "zsz") ?_
  intro tb z20 s35 F20b hz20 htb l35
  have Am := Am.mono hz20
  have hz1820 := stays_trans hz19 hz20
  have hlp := lay_pair hrb hXb
  refine zEqD R F20b.keep (rdPair (hz1820 _ _ hco) (mono_Lst mono_RStr _ _ _ _ hz1820 hcx)) (rdPair htb (mono_Lst mono_RStr _ _ _ _ hz20 hv2)) hlp hlp (depth_pair _ _) ?_
  rw [SeqAt.eqv_refl _ hlp]
  have hkD := hz1820 _ _ hkD
  have hkJ : Paired (Two true z20) kys (qs.map cutOf) := paired_mono (fun v x => mono_Two hz1820) hkJ
  have hgD := hz1820 _ _ hgD
  have hoD := hz1820 _ _ hoD
  have hoyl2 : oys.length = qs.length := hoJ.length
  have hgyl2 : gys.length = (qs.map drawn).length := hgJ.length
  have hct : (qs.map drawn).map splitP = qs.map cutOf := by
    rw [List.map_map]
    apply List.map_congr_left
    intro q hq
    show splitP (drawn q) = cutOf q
    rw [split_D (hqc q hq), cutOf, parted_split]
  have hlt : (PyData.list ((qs.map cutOf).map dTwo)).canLay0 = true := lay_twos fun p hp => by
    obtain ⟨q, hq, rfl⟩ := List.mem_map.mp hp
    have hq' := clean_b256 (hqc q hq)
    rw [cutOf, parted_split]
    exact ⟨drawn_b256 (b256_sub hq' (split_mem q).1), drawn_b256 (b256_sub hq' (split_mem q).2)⟩
  have hdt : (PyData.list ((qs.map cutOf).map dTwo)).depth ≤ 5 := Nat.le_trans (depth_twos _) (by omega)
  repeat' walk_at "z1"
  refine zListComp rfl ?_
  repeat' walk_at "z1"
  refine zIterL (by assumption) hgD R.handled ?_
  intro I7 o7 s36 W7 O7 F36 st7 l36
  refine zCompRun W7 O7 F36 st7 (by rw [sizeLine_eq]; simp at hgyl2; omega) (fun i z' ys => Paired (Two true z') ys (((qs.map drawn).take i).map splitP)) (by simpa using Paired.nil) (fun z z' ys k h => paired_mono (fun v x => mono_Two k) h) ?_ ?_
  · intro i v z' ys C mc s' E' loC hcC hi hv hz' hJ G l'
    have Am := Am.mono hz'
    obtain ⟨g, hg, hgv⟩ := paired_get hgJ hv
    have hgl : g.length ≤ 450 := by
      obtain ⟨q, hq, rfl⟩ := List.mem_map.mp (List.mem_of_getElem? hg)
      have h1 := drawn_len q
      have h2 := hql q hq
      omega
    refine wpAny_tests_nil ?_
    repeat' walk_at "z1"
    refine split_spec Am (Fz.keep (by assumption)) (R.le (by omega)) hgv (by omega) ?_
    intro z'' s'' r st l'' hr
    refine ⟨z'', _, G.step st, ?_, by walk_at "like"⟩
    rw [take_map splitP hg]
    exact paired_append (paired_mono (fun v x => mono_Two st.zz) hJ) (.cons hr .nil)
  intro pD z21 pys pk2 s37 F37 hz21 hpD hpJ l37
  rw [hgyl2, List.take_length, hct] at hpJ
  have Am := Am.mono hz21
  have hkD := hz21 _ _ hkD
  have hkJ : Paired (Two true z21) kys (qs.map cutOf) := paired_mono (fun v x => mono_Two hz21) hkJ
  have hoD := hz21 _ _ hoD
  clear W7 O7 F36 st7
  repeat' walk_at "z1"
  refine zEqD R F37.keep (rd_list (R := Two true) (f := dTwo) (fun v x h => rdTwo h) ⟨pD, pys, pk2, rfl, hpD, hpJ⟩) (rd_list (R := Two true) (f := dTwo) (fun v x h => rdTwo h) ⟨kD, kys, kk, rfl, hkD, hkJ⟩) hlt hlt hdt ?_
  rw [SeqAt.eqv_refl _ hlt]
  repeat' walk_at "z1"
  refine zListComp rfl ?_
  repeat' walk_at "z1"
  refine zIterL (by assumption) hoD R.handled ?_
  intro I8 o8 s38 W8 O8 F38 st8' l38
  refine zCompRun W8 O8 F38 st8' (by rw [sizeLine_eq]; omega) (fun i z' ys => Paired (Two true z') ys ((qs.take i).map cutOf)) (by simpa using Paired.nil) (fun z z' ys k h => paired_mono (fun v x => mono_Two k) h) ?_ ?_
  · intro i v z' ys C mc s' E' loC hcC hi hv hz' hJ G l'
    have Am := Am.mono hz'
    obtain ⟨q, hq, hqv⟩ := paired_get hoJ hv
    have hql0 := hql q (List.mem_of_getElem? hq)
    have hsl := split_len q
    have hqb := clean_b256 (hqc q (List.mem_of_getElem? hq))
    refine wpAny_tests_nil ?_
    repeat' walk_at "z1"
    refine split_spec Am (Fz.keep (by assumption)) (R.le (by omega)) hqv (by omega) ?_
    intro y1 r1 v1' st1' k1 hr1
    have F := Fz.step (by assumption) st1'
    have Am := Am.mono st1'.zz
    obtain ⟨a1, x1, w1, n1, rfl, ha1, hx1, hw1⟩ := hr1
    repeat' walk_at "z1"
    refine zTupAt (n := 0) (Fz.keep (by assumption) _ _ ha1) (by omega) rfl ?_
    repeat' walk_at "z1"
    refine shown_pv Am (Fz.keep (by assumption)) (R.le (by omega)) hx1 (by omega) ?_
    intro y2 r2 t2 st2' k2
    have F := Fz.step (by assumption) st2'
    have Am := Am.mono st2'.zz
    repeat' walk_at "z1"
    refine split_spec Am (Fz.keep (by assumption)) (R.le (by omega)) hqv (by omega) ?_
    intro y3 r3 v3' st3' k3 hr3
    have F := Fz.step (by assumption) st3'
    have Am := Am.mono st3'.zz
    obtain ⟨a3, x3, w3, n3, rfl, ha3, hx3, hw3⟩ := hr3
    repeat' walk_at "z1"
    refine zTupAt (n := 1) (Fz.keep (by assumption) _ _ ha3) (by omega) rfl ?_
    repeat' walk_at "z1"
    refine shown_pv Am (Fz.keep (by assumption)) (R.le (by omega)) hw3 (by omega) ?_
    intro y4 r4 t4 st4' k4
    have F := Fz.step (by assumption) st4'
    have Am := Am.mono st4'.zz
    repeat' walk_at "z1"
    refine zTup (by assumption) (by walk_at "zsz") ?_
    intro te y5 r5 G5 hy5 hte k5
    refine ⟨y5, _, G5, ?_, by walk_at "like"⟩
    have hzz : z'.StaysIn y5 := stays_trans st1'.zz (stays_trans st2'.zz (stays_trans st3'.zz (stays_trans st4'.zz hy5)))
    rw [take_map cutOf hq]
    refine paired_append (paired_mono (fun v x => mono_Two hzz) hJ) (.cons ⟨te, _, _, 0, rfl, hte, ?_, ?_⟩ .nil)
    · rw [cutOf, parted_split]; exact pv_str (drawn_b256 (b256_sub hqb (split_mem q).1))
    · rw [cutOf, parted_split]; exact pv_str (drawn_b256 (b256_sub hqb (split_mem q).2))
  intro eD z22 eys ek s39 F39 hz22 heD heJ l39
  rw [hoyl2, List.take_length] at heJ
  have hkD := hz22 _ _ hkD
  have hkJ : Paired (Two true z22) kys (qs.map cutOf) := paired_mono (fun v x => mono_Two hz22) hkJ
  have Am := Am.mono hz22
  clear W8 O8 F38 st8'
  repeat' walk_at "z1"
  refine zEqD R F39.keep (rd_list (R := Two true) (f := dTwo) (fun v x h => rdTwo h) ⟨eD, eys, ek, rfl, heD, heJ⟩) (rd_list (R := Two true) (f := dTwo) (fun v x h => rdTwo h) ⟨kD, kys, kk, rfl, hkD, hkJ⟩) hlt hlt hdt ?_
  rw [SeqAt.eqv_refl _ hlt]
  repeat' walk_at "z1"
  exact hQ _ _ _ F39 (by walk_at "like")
end

theorem rm_law (env : Env) : Rm (callerA.deeper env) 8 := ⟨rfl, by show 1 + claimMargin + 1 + 8 < recursionLimit; decide +kernel, by show 4 + 3 + 10 * 8 + 20 < cLine; decide +kernel⟩

end Mine

set_option maxHeartbeats 8000000 in
theorem PySem.Challenge.cw_pd0009_01_holds : PySem.Challenge.rw_pd0009_01.Holds := by
  w_on
  refine holds_law Mine.hdSaid fun said => ?_
  refine holds_open (q := Mine.hdV) (loose := Mine.hdLoose) (Xt := fun s => xlAt Mine.hdV [] s && recOk (RowW.records PySem.Challenge.rw_pd0009_01.row.toRowW) s) (XP := XL Mine.hdV []) (Yf := Mine.hdH.obs) (Ya := Mine.hdH.val) (YP := Mine.hdH.says) (N := 2638) Mine.hdLeft (Hook.of Mine.hdH) (Hook.keeps Mine.hdH) (fun s e => xl_of s (Bool.and_eq_true_iff.mp e).1) XL.keeps (by rfl) (by rfl) (by rfl) (fun s e => recFacts_of (Bool.and_eq_true_iff.mp e).2) (by rfl) (by assumption) (by decide +kernel) ⟨rfl, rfl, rfl, rfl, rfl, by decide +kernel⟩ ?hw ?hc
  case hw => w_witness2
  k_go0
  (rename Top _ _ _ _ _ _ => T)
  (rename Frag.In _ _ => KX)
  (rename Fr _ _ _ _ => FF)
  (rename Heap.IsList _ _ _ => hL)
  (rename IntsAre _ _ => hI)
  (rename (¬ (_ < _)) => hcn)
  (rename (_ = #[]) => hg)
  have Am := Mine.Amb.mk KX T.g T.b T.builtins T.nolimit
  refine Mine.law_body Am (Mine.rm_law _) ⟨FF.ns, FF.keep, FF.keep, Nat.le_of_lt FF.ns.lt, Mine.stays_refl _, fun _ _ e => .inr e, Mine.get_none_ge (Nat.le_refl _), Mine.get_none_ge (Nat.le_refl _), (fun _ hp => by cases hp), List.nodup_nil⟩ rfl hL hI (by omega) ?_
  intro z' m' s' F' lk
  have F' : Fr _ _ s'.heap m' := ⟨F'.ns, F'.base, Nat.le_refl _⟩
  have hg' : s'.gens = #[] := lk.1.trans hg
  refine goodW_bool F' hg' ?_ ?_ ?_
  · exact raisesW_false (by wrow_none_raised)
  · exact postW_of rfl (w_eq_bool (w_res rfl) w_lit) rfl
  · exact lk.2.2
