import PyProof.Rows.All
import Wide.All
import OpenK.AllK
import Wide.FinOn
import PySem.Challenge.RW_mq0194_01
set_option Elab.async false
set_option linter.all false

section
open PySem PySem.W PySem.Calls PyProof.Rows
set_option Elab.async false
set_option maxRecDepth 100000
set_option linter.all false
namespace Mine

/-- the kinds of object that a ledger knows -/
inductive Ob where
  | ns (m : Str → Option Value)
  | cell (v : Option Value)
  | list (xs : List Value)
  | tup (xs : List Value)
  | liter (a : Addr) (i : Nat)
  | titer (a : Addr) (i : Nat)
  | riter (x left step : Int)
  | rng (a b c : Int)
  | arr (xs : List Value)
  | any

noncomputable def PTup (h : Heap) (a : Addr) (xs : List Value) : Prop := ∃ n, h.get? a = some { cls := .type "tuple", data := .seq xs.toArray n }
theorem PTup.isTup {h : Heap} {a : Addr} {xs : List Value} (x : PTup h a xs) : IsTup h a xs.toArray := let ⟨n, e⟩ := x; ⟨_, e, rfl, n, rfl⟩
noncomputable def Ob.At (h : Heap) (a : Addr) : Ob → Prop
  | .ns m => h.Ns a m
  | .cell v => h.IsCell a v
  | .list xs => h.PlainList a xs.toArray
  | .tup xs => PTup h a xs
  | .liter b i => h.IsListIter a b i
  | .titer b i => IsTupIter h a b i
  | .riter x l st => IsRangeIter h a x l st
  | .rng x y z => ∃ t u v, IsRange h a x y z t u v
  | .arr xs => h.IsList a xs.toArray
  | .any => ∃ o, h.get? a = some o

theorem Ob.At.mono {h h' : Heap} {a : Addr} {ob : Ob} (x : ob.At h a) (k : ∀ o, h.get? a = some o → h'.get? a = some o) : ob.At h' a := by
  cases ob with
  | ns m => obtain ⟨o, es, ep, e, r⟩ := x; exact ⟨o, es, ep, k _ e, r⟩
  | cell v => obtain ⟨o, e, r⟩ := x; exact ⟨o, k _ e, r⟩
  | list xs => obtain ⟨n, e⟩ := x; exact ⟨n, k _ e⟩
  | tup xs => obtain ⟨n, e⟩ := x; exact ⟨n, k _ e⟩
  | liter b i => obtain ⟨o, e, r⟩ := x; exact ⟨o, k _ e, r⟩
  | titer b i => obtain ⟨o, e, r⟩ := x; exact ⟨o, k _ e, r⟩
  | riter p l st => exact k _ x
  | rng p q r => obtain ⟨t, u, v, e⟩ := x; exact ⟨t, u, v, k _ e⟩
  | arr xs => obtain ⟨o, e, r⟩ := x; exact ⟨o, k _ e, r⟩
  | any => obtain ⟨o, e⟩ := x; exact ⟨o, k _ e⟩

theorem Ob.At.some {h : Heap} {a : Addr} {ob : Ob} (x : ob.At h a) : ∃ o, h.get? a = some o := by
  cases ob with
  | ns m => obtain ⟨o, es, ep, e, r⟩ := x; exact ⟨o, e⟩
  | cell v => obtain ⟨o, e, r⟩ := x; exact ⟨o, e⟩
  | list xs => obtain ⟨n, e⟩ := x; exact ⟨_, e⟩
  | tup xs => obtain ⟨n, e⟩ := x; exact ⟨_, e⟩
  | liter b i => obtain ⟨o, e, r⟩ := x; exact ⟨o, e⟩
  | titer b i => obtain ⟨o, e, r⟩ := x; exact ⟨o, e⟩
  | riter p l st => exact ⟨_, x⟩
  | rng p q r => obtain ⟨t, u, v, e⟩ := x; exact ⟨_, e⟩
  | arr xs => obtain ⟨o, e, r⟩ := x; exact ⟨_, e⟩
  | any => exact x

theorem lt2 {j : Nat} (h : j < 2) : j = 0 ∨ j = 1 := by omega
theorem lt3 {j : Nat} (h : j < 3) : j = 0 ∨ j = 1 ∨ j = 2 := by omega
theorem lt6 {j : Nat} (h : j < 6) : j = 0 ∨ j = 1 ∨ j = 2 ∨ j = 3 ∨ j = 4 ∨ j = 5 := by omega
theorem lt7 {j : Nat} (h : j < 7) : j = 0 ∨ j = 1 ∨ j = 2 ∨ j = 3 ∨ j = 4 ∨ j = 5 ∨ j = 6 := by omega
theorem sum7 (a b c d e f g : Int) : ([a, b, c, d, e, f, g] : List Int).sum = a + b + c + d + e + f + g := by
  simp only [List.sum_cons, List.sum_nil]; omega
theorem half_lo {n : Nat} (h : 1 ≤ n) : (n : Int) / 2 + 1 = ((n - (n - 1) / 2 : Nat) : Int) := by omega
theorem half_hi (n : Nat) : ((n : Int) + 1) / 2 = ((n - n / 2 : Nat) : Int) := by omega
theorem half_low {n : Nat} (h : n % 2 ≠ 1) (h0 : 1 ≤ n) : ((n / 2 : Nat) : Int) - 1 = ((((n - 1) / 2 : Nat)) : Int) := by omega
theorem fill3 {n : Nat} (h : n % 3 ≠ 0) : (3 - (n + 1) % 3) % 3 < (3 - n % 3) % 3 := by omega
theorem nat_turn (j : Nat) : (0 + (j : Int) * 1).toNat = j := by omega
noncomputable abbrev Sub (g h : Heap) : Prop := ∀ b o, g.get? b = some o → h.get? b = some o
theorem Sub.refl (g : Heap) : Sub g g := fun _ _ e => e
theorem Sub.trans {a b c : Heap} (x : Sub a b) (y : Sub b c) : Sub a c := fun p o e => y p o (x p o e)

/-- what is known of the state: g, the part that stays; l, the objects that may turn, all apart -/
structure Led (ι : Shared) (g : Heap) (s : Shared) (l : List (Addr × Ob)) : Prop where
  rest : s.gens = ι.gens ∧ s.drawn = ι.drawn ∧ s.os = ι.os
  sub : Sub g s.heap
  here : ∀ p ∈ l, p.2.At s.heap p.1
  off : ∀ p ∈ l, g.get? p.1 = none
  apart : (l.map Prod.fst).Nodup
  pos : 0 < ι.toks ∧ ι.toks ≤ s.toks

noncomputable abbrev bump (ι : Shared) (n : Nat) : Shared := { ι with toks := n }
section
variable {ι : Shared} {g : Heap} {s : Shared} {l l' : List (Addr × Ob)}
theorem Led.nz (D : Led ι g s l) : s.toks ≠ 0 := by have := D.pos; omega
theorem Led.raise (D : Led ι g s l) : Led (bump ι s.toks) g s l := ⟨D.rest, D.sub, D.here, D.off, D.apart, Nat.lt_of_lt_of_le D.pos.1 D.pos.2, Nat.le_refl _⟩
theorem Led.raiseTo (D : Led ι g s l) {n : Nat} (h0 : 0 < n) (hn : n ≤ s.toks) : Led (bump ι n) g s l := ⟨D.rest, D.sub, D.here, D.off, D.apart, h0, hn⟩
theorem Led.low {n : Nat} (D : Led (bump ι n) g s l) (h0 : 0 < ι.toks) (hn : ι.toks ≤ n) : Led ι g s l := ⟨D.rest, D.sub, D.here, D.off, D.apart, h0, Nat.le_trans hn D.pos.2⟩

theorem Led.tok (D : Led ι g s l) {n : Nat} (hn : s.toks ≤ n := by first | exact Nat.le_add_right _ _ | omega) : Led ι g { s with toks := n } l := ⟨D.rest, D.sub, D.here, D.off, D.apart, ⟨D.pos.1, Nat.le_trans D.pos.2 hn⟩⟩

/-- the heap has grown -/
theorem Led.grow (D : Led ι g s l) {h' : Heap} {n : Nat} (k : Sub s.heap h') (hn : s.toks ≤ n := by first | exact Nat.le_add_right _ _ | omega) : Led ι g { s with heap := h', toks := n } l :=
  ⟨D.rest, fun b o e => k b o (D.sub b o e), fun p hp => (D.here p hp).mono fun o e => k _ o e, D.off, D.apart, ⟨D.pos.1, Nat.le_trans D.pos.2 hn⟩⟩

theorem Led.grow' (D : Led ι g s l) {h' : Heap} (k : Sub s.heap h') : Led ι g { s with heap := h' } l :=
  ⟨D.rest, fun b o e => k b o (D.sub b o e), fun p hp => (D.here p hp).mono fun o e => k _ o e, D.off, D.apart, D.pos⟩

/-- all but one address that the ledger does not name -/
theorem Led.off1 (D : Led ι g s l) {h' : Heap} {n : Nat} {a : Addr} (k : ∀ b o, b ≠ a → s.heap.get? b = some o → h'.get? b = some o) (ha : g.get? a = none) (hl : ∀ p ∈ l, p.1 ≠ a) (hn : s.toks ≤ n := by first | exact Nat.le_add_right _ _ | omega) :
    Led ι g { s with heap := h', toks := n } l :=
  ⟨D.rest, fun b o e => k b o (fun q => by rw [q, ha] at e; cases e) (D.sub b o e), fun p hp => (D.here p hp).mono fun o e => k _ o (hl p hp) e, D.off, D.apart, ⟨D.pos.1, Nat.le_trans D.pos.2 hn⟩⟩

theorem Led.perm (D : Led ι g s l) (p : l'.Perm l) : Led ι g s l' :=
  ⟨D.rest, D.sub, fun q hq => D.here q (p.mem_iff.mp hq), fun q hq => D.off q (p.mem_iff.mp hq), (p.map Prod.fst).nodup_iff.mpr D.apart, D.pos⟩

theorem Led.drop1 {p : Addr × Ob} (D : Led ι g s (p :: l)) : Led ι g s l :=
  ⟨D.rest, D.sub, fun q hq => D.here q (.tail _ hq), fun q hq => D.off q (.tail _ hq), (List.nodup_cons.mp D.apart).2, D.pos⟩

theorem Led.sublist (D : Led ι g s l) (p : l'.Sublist l) : Led ι g s l' :=
  ⟨D.rest, D.sub, fun q hq => D.here q (p.subset hq), fun q hq => D.off q (p.subset hq), (p.map Prod.fst).nodup D.apart, D.pos⟩

/-- a new object -/
theorem Led.new (D : Led ι g s l) {h' : Heap} {n : Nat} {a : Addr} {ob : Ob} (k : Sub s.heap h') (ha : s.heap.get? a = none) (hob : ob.At h' a) (hn : s.toks ≤ n := by first | exact Nat.le_add_right _ _ | omega) :
    Led ι g { s with heap := h', toks := n } ((a, ob) :: l) := by
  refine ⟨D.rest, fun b o e => k b o (D.sub b o e), fun p hp => ?_, fun p hp => ?_, ?_, ⟨D.pos.1, Nat.le_trans D.pos.2 hn⟩⟩
  · rcases List.mem_cons.mp hp with rfl | hp
    · exact hob
    · exact (D.here p hp).mono fun o e => k _ o e
  · rcases List.mem_cons.mp hp with rfl | hp
    · cases e : g.get? a with
      | none => rfl
      | some o => have := D.sub _ _ e; rw [ha] at this; cases this
    · exact D.off p hp
  · refine List.nodup_cons.mpr ⟨fun q => ?_, D.apart⟩
    obtain ⟨p, hp, e⟩ := List.mem_map.mp q
    obtain ⟨o, eo⟩ := (D.here p hp).some
    rw [e, ha] at eo; cases eo

theorem size_none (h : Heap) : h.get? h.objs.size = none := by
  cases e : h.get? h.objs.size with
  | none => rfl
  | some o => exact absurd (Heap.lt_size e) (Nat.lt_irrefl _)
theorem above_none {h : Heap} {a : Addr} (ha : h.objs.size ≤ a) : h.get? a = none := by
  cases e : h.get? a with
  | none => rfl
  | some o => exact absurd (Heap.lt_size e) (Nat.not_lt.mpr ha)

/-- the object at one address turns -/
theorem Led.turn {pre post : List (Addr × Ob)} {a : Addr} {ob ob' : Ob} (D : Led ι g s (pre ++ (a, ob) :: post)) {h' : Heap} {n : Nat} (k : ∀ b o, b ≠ a → s.heap.get? b = some o → h'.get? b = some o) (hob : ob'.At h' a) (hn : s.toks ≤ n := by first | exact Nat.le_add_right _ _ | omega) :
    Led ι g { s with heap := h', toks := n } (pre ++ (a, ob') :: post) := by
  have hm : (a, ob) ∈ pre ++ (a, ob) :: post := List.mem_append_right _ (.head _)
  have hne : ∀ p ∈ pre ++ post, p.1 ≠ a := by
    intro p hp e
    have h1 : ((pre ++ (a, ob) :: post).map Prod.fst).Perm (a :: (pre ++ post).map Prod.fst) := by
      have := (List.perm_middle (a := (a, ob)) (l₁ := pre) (l₂ := post)).map Prod.fst
      exact this
    have h2 := h1.nodup_iff.mp D.apart
    exact (List.nodup_cons.mp h2).1 (List.mem_map.mpr ⟨p, hp, e⟩)
  refine ⟨D.rest, fun b o e => k b o (fun q => ?_) (D.sub b o e), fun p hp => ?_, fun p hp => ?_, ?_, ⟨D.pos.1, Nat.le_trans D.pos.2 hn⟩⟩
  · have := D.off _ hm
    rw [q, this] at e; cases e
  · rcases List.mem_append.mp hp with hp | hp
    · exact (D.here p (List.mem_append_left _ hp)).mono fun o e => k _ o (hne p (List.mem_append_left _ hp)) e
    · rcases List.mem_cons.mp hp with rfl | hp
      · exact hob
      · exact (D.here p (List.mem_append_right _ (.tail _ hp))).mono fun o e => k _ o (hne p (List.mem_append_right _ hp)) e
  · rcases List.mem_append.mp hp with hp | hp
    · exact D.off p (List.mem_append_left _ hp)
    · rcases List.mem_cons.mp hp with rfl | hp
      · exact (D.off (a, ob) hm : g.get? a = none)
      · exact D.off p (List.mem_append_right _ (.tail _ hp))
  · have := D.apart
    simpa using this

theorem Led.asArr {pre post : List (Addr × Ob)} {a : Addr} {xs : List Value} (D : Led ι g s (pre ++ (a, .list xs) :: post)) : Led ι g s (pre ++ (a, .arr xs) :: post) := by
  refine ⟨D.rest, D.sub, fun p hp => ?_, fun p hp => ?_, ?_, D.pos⟩
  · rcases List.mem_append.mp hp with hp | hp
    · exact D.here p (List.mem_append_left _ hp)
    · rcases List.mem_cons.mp hp with rfl | hp
      · exact (Heap.PlainList.isList (D.here (a, .list xs) (List.mem_append_right _ (.head _))))
      · exact D.here p (List.mem_append_right _ (.tail _ hp))
  · rcases List.mem_append.mp hp with hp | hp
    · exact D.off p (List.mem_append_left _ hp)
    · rcases List.mem_cons.mp hp with rfl | hp
      · exact (D.off (a, .list xs) (List.mem_append_right _ (.head _)) : g.get? a = none)
      · exact D.off p (List.mem_append_right _ (.tail _ hp))
  · have := D.apart
    simpa using this

/-- what is no longer turned is laid into the part that stays -/
theorem Led.freeze {e : List (Addr × Ob)} (D : Led ι g s (e ++ l)) : ∃ g', Sub g g' ∧ Led ι g' s l ∧ (∀ p ∈ e, p.2.At g' p.1) ∧ (∀ b o, s.heap.get? b = some o → (∀ p ∈ l, p.1 ≠ b) → g'.get? b = some o) := by
  have hap : ∀ p ∈ e, ∀ q ∈ l, p.1 ≠ q.1 := by
    intro p hp q hq h
    have := D.apart
    rw [List.map_append] at this
    exact (List.nodup_append.mp this).2.2 _ (List.mem_map.mpr ⟨p, hp, rfl⟩) _ (List.mem_map.mpr ⟨q, hq, rfl⟩) h
  have hin : ∀ b o, s.heap.get? b = some o → (∀ p ∈ l, p.1 ≠ b) → (hideAll s.heap (l.map Prod.fst)).get? b = some o := by
    intro b o hb hn
    refine hideAll_get _ hb fun q => ?_
    obtain ⟨p, hp, e⟩ := List.mem_map.mp q
    exact hn p hp e
  refine ⟨hideAll s.heap (l.map Prod.fst), fun b o hb => ?_, ⟨D.rest, fun b o hb => of_hideAll _ hb, fun p hp => D.here p (List.mem_append_right _ hp), fun p hp => hideAll_none _ (List.mem_map.mpr ⟨p, hp, rfl⟩), ?_, D.pos⟩, fun p hp => ?_, hin⟩
  · refine hin b o (D.sub b o hb) fun p hp e => ?_
    have := D.off p (List.mem_append_right _ hp)
    rw [e, hb] at this; cases this
  · have := D.apart
    rw [List.map_append] at this
    exact (List.nodup_append.mp this).2.1
  · exact (D.here p (List.mem_append_left _ hp)).mono fun o ho => hin _ o ho fun q hq e => hap p hp q hq e.symm
end
end Mine
end

section
open PySem PySem.W PySem.Calls PyProof.Rows
set_option Elab.async false
set_option maxRecDepth 100000
set_option linter.all false
namespace Mine

noncomputable def defAt (i : Nat) : Stmt := (PySem.Challenge.pw_mq0194_01.main.body[i]?).getD (.Pass ⟨0, 0, 0, 0⟩)
noncomputable def bodyOf : Stmt → List Stmt
  | .FunctionDef _ _ b _ _ _ _ _ _ _ => b
  | _ => []
noncomputable def paramsOf : Stmt → Arguments
  | .FunctionDef _ p _ _ _ _ _ _ _ _ => p
  | _ => default
noncomputable def scopeOf : Stmt → Scope
  | .FunctionDef _ _ _ _ _ _ s _ _ _ => s
  | _ => default

/-- a def of the text stands at an address -/
structure FnAt (g : Heap) (f : Addr) (i : Nat) : Prop where
  it : ∃ o fd, g.get? f = some o ∧ o.data = .func fd ∧ fd.params = paramsOf (defAt i) ∧ fd.body = .stmts (bodyOf (defAt i)) ∧ fd.scope = scopeOf (defAt i) ∧ fd.closure = [] ∧ fd.globals = mainGlobals ∧
    fd.builtins = builtinsNs ∧ fd.defaults = .none ∧ fd.kwdefaults = .none ∧ g.CodeRec fd.code fd.qualname

structure Room (A : Around) (n : Nat) : Prop where
  handled : A.handled = none
  depth : A.depth + n < recursionLimit
  units : A.units + 8 * n < cLine

theorem Room.deeper {A : Around} {n : Nat} (R : Room A (n + 1)) (env : Env) : Room (A.deeper env) n :=
  ⟨R.handled, by have := R.depth; show A.depth + 1 + n < _; omega, by have := R.units; show A.units + 3 + 8 * n < _; omega⟩
theorem Room.depth0 {A : Around} {n : Nat} (R : Room A n) : A.depth < recursionLimit := by have := R.depth; omega
theorem Room.units0 {A : Around} {n : Nat} (R : Room A n) : A.units < cLine := by have := R.units; omega

structure EnvIs (env : Env) (L : Addr) (names : List (Str × NameKind)) (cells : List (Str × Addr)) : Prop where
  kind : env.scope.kind = .function
  locals : env.locals = L
  names : env.scope.names = names
  cells : env.cells = cells
  globals : env.globals = mainGlobals
  builtins : env.builtins = builtinsNs

theorem EnvIs.kindOf {env : Env} {L : Addr} {names : List (Str × NameKind)} {cells : List (Str × Addr)} (V : EnvIs env L names cells) (x : Str) : env.kindOf x = names.lookup x := by
  unfold Env.kindOf; rw [V.names]
theorem EnvIs.plain {env : Env} {L : Addr} {names : List (Str × NameKind)} {cells : List (Str × Addr)} (V : EnvIs env L names cells) : (env.scope.kind == .class || (env.scope.kind == .module && env.locals != env.globals)) = false := by
  rw [V.kind]; rfl

/-- the globals and built-ins that the text reads -/
noncomputable def globTab : List (Str × Value) := [("yiq_to_rgb", .ref 21), ("rgb_to_hls", .ref 28), ("rgb_to_hsv", .ref 35), ("median_low", .ref 55), ("median_high", .ref 62),
  ("_law_colours", .ref 67), ("_law_layers", .ref 72), ("_law_counted", .ref 77), ("_law_told", .ref 82)]
noncomputable def bltTab : List (Str × Value) := [("len", .builtin "len"), ("sorted", .builtin "sorted"), ("range", .type "range"), ("sum", .builtin "sum"), ("min", .builtin "min"), ("max", .builtin "max"),
  ("type", .type "type"), ("float", .type "float"), ("int", .type "int")]

structure Grd (g : Heap) : Prop where
  statics : g.Ns cStatics (fun _ => none)
  names : ∃ mg mb, g.Ns mainGlobals mg ∧ g.Ns builtinsNs mb ∧ (∀ p ∈ globTab, mg p.1 = some p.2) ∧ (∀ p ∈ bltTab, mg p.1 = none ∧ mb p.1 = some p.2)
  yiq : FnAt g 21 1
  hls : FnAt g 28 2
  hsv : FnAt g 35 3
  low : FnAt g 55 6
  high : FnAt g 62 7
  colours : FnAt g 67 9
  layers : FnAt g 72 10
  counted : FnAt g 77 11
  told : FnAt g 82 12

theorem FnAt.mono {g g' : Heap} {f : Addr} {i : Nat} (x : FnAt g f i) (k : Sub g g') : FnAt g' f i := by
  obtain ⟨o, fd, h1, h2, h3, h4, h5, h6, h7, h8, h9, h10, h11⟩ := x.it
  exact ⟨o, fd, k _ _ h1, h2, h3, h4, h5, h6, h7, h8, h9, h10, h11.keeps k⟩
theorem Grd.mono {g g' : Heap} (x : Grd g) (k : Sub g g') : Grd g' := by
  obtain ⟨mg, mb, h1, h2, h3, h4⟩ := x.names
  exact ⟨x.statics.keeps k, ⟨mg, mb, h1.keeps k, h2.keeps k, h3, h4⟩, x.yiq.mono k, x.hls.mono k, x.hsv.mono k, x.low.mono k, x.high.mono k, x.colours.mono k, x.layers.mono k, x.counted.mono k, x.told.mono k⟩

theorem Grd.nolimit {g : Heap} (x : Grd g) : g.NoLimit := ⟨_, x.statics, rfl⟩
theorem Grd.booked {g : Heap} (x : Grd g) : NoneBooked g := ⟨_, x.statics, rfl⟩

noncomputable def upd (m : Str → Option Value) (x : Str) (v : Value) : Str → Option Value := fun y => if y = x then some v else m y
theorem upd_here {m : Str → Option Value} {x : Str} {v : Value} : upd m x v x = some v := if_pos rfl
theorem upd_there {m : Str → Option Value} {x y : Str} {v : Value} {o : Option Value} (hne : (y == x) = false) (h : m y = o) : upd m x v y = o := by
  unfold upd; rw [if_neg (fun e => by rw [e] at hne; simp at hne)]; exact h

section
variable {prog : Program} {w : World} {A : Around} {E : Value → Shared → Prop} {s ι : Shared} {g : Heap} {l : List (Addr × Ob)} {env : Env} {L : Addr} {names : List (Str × NameKind)} {cells : List (Str × Addr)}

theorem nm_l {x : Str} {pos : Pos} {m : Str → Option Value} {v : Value} {Q : Value → Shared → Prop} (V : EnvIs env L names cells) (D : Led ι g s l) (hm : (L, Ob.ns m) ∈ l) (hk : names.lookup x = some .local) (hv : m x = some v)
    (hd : (x == ("__debug__" : Str)) = false) (h : Q v s) : wpAny (model prog w) A (eval (.Name x pos) env) Q E s :=
  wpAny_Name (wpAny_loadName_local V.kind ((V.kindOf x).trans hk) (by rw [V.locals]; exact D.here _ hm) hv h) hd
theorem ld_l {x : Str} {m : Str → Option Value} {v : Value} {Q : Value → Shared → Prop} (V : EnvIs env L names cells) (D : Led ι g s l) (hm : (L, Ob.ns m) ∈ l) (hk : names.lookup x = some .local) (hv : m x = some v)
    (h : Q v s) : wpAny (model prog w) A (loadName env x) Q E s :=
  wpAny_loadName_local V.kind ((V.kindOf x).trans hk) (by rw [V.locals]; exact D.here _ hm) hv h
theorem nm_c {x : Str} {pos : Pos} {c : Addr} {v : Value} {Q : Value → Shared → Prop} (V : EnvIs env L names cells) (D : Led ι g s l) (hk : names.lookup x = some .cell) (hc : cells.lookup x = some c) (hm : (c, Ob.cell (some v)) ∈ l)
    (hd : (x == ("__debug__" : Str)) = false) (h : Q v s) : wpAny (model prog w) A (eval (.Name x pos) env) Q E s :=
  wpAny_Name (wpAny_loadName_cell V.kind ((V.kindOf x).trans hk) (by rw [V.cells]; exact hc) (D.here _ hm) h) hd
theorem nm_g {x : Str} {pos : Pos} {v : Value} {Q : Value → Shared → Prop} (V : EnvIs env L names cells) (D : Led ι g s l) (G : Grd g) (hk : names.lookup x = some .globalImplicit) (hm : (x, v) ∈ globTab)
    (hd : (x == ("__debug__" : Str)) = false) (h : Q v s) : wpAny (model prog w) A (eval (.Name x pos) env) Q E s := by
  obtain ⟨mg, mb, h1, h2, h3, h4⟩ := G.names
  exact Name_function_global V.kind ((V.kindOf x).trans hk) (loadGlobal_global (env := env) (by rw [V.globals]; exact h1.keeps D.sub) (h3 _ hm) h) hd
theorem nm_b {x : Str} {pos : Pos} {v : Value} {Q : Value → Shared → Prop} (V : EnvIs env L names cells) (D : Led ι g s l) (G : Grd g) (hk : names.lookup x = some .globalImplicit) (hm : (x, v) ∈ bltTab)
    (hd : (x == ("__debug__" : Str)) = false) (h : Q v s) : wpAny (model prog w) A (eval (.Name x pos) env) Q E s := by
  obtain ⟨mg, mb, h1, h2, h3, h4⟩ := G.names
  exact Name_function_global V.kind ((V.kindOf x).trans hk) (loadGlobal_builtin (env := env) (by rw [V.globals]; exact h1.keeps D.sub) (h4 _ hm).1 (by rw [V.builtins]; exact h2.keeps D.sub) (h4 _ hm).2 h) hd

theorem st_l {x : Str} {v : Value} {m : Str → Option Value} {Q : Unit → Shared → Prop} (V : EnvIs env L names cells) (D : Led ι g s ((L, .ns m) :: l)) (hk : names.lookup x = some .local)
    (h : ∀ s', Led ι g s' ((L, .ns (upd m x v)) :: l) → Q () s') : wpAny (model prog w) A (storeName env x v) Q E s :=
  wpAny_storeName_local ((V.kindOf x).trans hk) (by rw [V.locals]; exact D.here _ (.head _)) (fun h' hn hs => h _ (by
    rw [V.locals] at hn hs
    exact Led.turn (pre := []) (ob := .ns m) (ob' := .ns (upd m x v)) D (fun b o hb e => (hs.2 b hb).trans e) hn)) V.plain

theorem st_c {x : Str} {v : Value} {c : Addr} {v₀ : Option Value} {pre post : List (Addr × Ob)} {Q : Unit → Shared → Prop} (V : EnvIs env L names cells) (D : Led ι g s (pre ++ (c, .cell v₀) :: post)) (hk : names.lookup x = some .cell) (hc : cells.lookup x = some c)
    (h : ∀ s', Led ι g s' (pre ++ (c, .cell (some v)) :: post) → Q () s') : wpAny (model prog w) A (storeName env x v) Q E s :=
  wpAny_storeName_cell V.kind ((V.kindOf x).trans hk) (by rw [V.cells]; exact hc) (D.here _ (List.mem_append_right _ (.head _))) (fun h' hn hs => h { s with heap := h' } (
    Led.turn (n := s.toks) (ob := .cell v₀) (ob' := .cell (some v)) D (fun b o hb e => (hs.2 b hb).trans e) hn))

/-- entries laid all at once -/
theorem Led.news (D : Led ι g s l) {s' : Shared} {e : List (Addr × Ob)} (hr : s'.gens = s.gens ∧ s'.drawn = s.drawn ∧ s'.os = s.os) (k : Sub s.heap s'.heap) (ha : ∀ p ∈ e, s.heap.get? p.1 = none) (hob : ∀ p ∈ e, p.2.At s'.heap p.1) (hn : (e.map Prod.fst).Nodup) (htk : s.toks ≤ s'.toks) :
    Led ι g s' (e ++ l) := by
  refine ⟨⟨hr.1.trans D.rest.1, hr.2.1.trans D.rest.2.1, hr.2.2.trans D.rest.2.2⟩, fun b o x => k b o (D.sub b o x), fun p hp => ?_, fun p hp => ?_, ?_, ⟨D.pos.1, Nat.le_trans D.pos.2 htk⟩⟩
  · rcases List.mem_append.mp hp with hp | hp
    · exact hob p hp
    · exact (D.here p hp).mono fun o x => k _ o x
  · rcases List.mem_append.mp hp with hp | hp
    · cases x : g.get? p.1 with
      | none => rfl
      | some o => have := D.sub _ _ x; rw [ha p hp] at this; cases this
    · exact D.off p hp
  · rw [List.map_append]
    refine List.nodup_append.mpr ⟨hn, D.apart, fun a ha' b hb q => ?_⟩
    obtain ⟨p, hp, rfl⟩ := List.mem_map.mp ha'
    obtain ⟨p', hp', rfl⟩ := List.mem_map.mp hb
    obtain ⟨o, eo⟩ := (D.here p' hp').some
    rw [← q, ha p hp] at eo; cases eo

noncomputable def cellObs (cm : Str → Option Value) (cs : List (Str × Addr)) : List (Addr × Ob) := cs.map fun p => (p.2, .cell (cm p.1))
noncomputable def retOf : Flow → Value
  | .ret v => v
  | _ => .none

noncomputable def kindIn (sc : Scope) (x : Str) : Option NameKind := sc.names.lookup x

theorem call_fn {f : Addr} {i n : Nat} {args : List Value} {binds : List (Str × Value)} {Q : Value → Shared → Prop} (D : Led ι g s l) (G : Grd g) (F : FnAt g f i) (R : Room A (n + 1))
    (hk : (scopeOf (defAt i)).kind = .function) (hco : (scopeOf (defAt i)).isCoroutine = false) (hgen : (scopeOf (defAt i)).isGenerator = false)
    (hbind : ∀ fd : FuncData, fd.params = paramsOf (defAt i) → fd.defaults = .none → fd.kwdefaults = .none → bindArgs fd ⟨args, []⟩ = pure binds)
    (hkind : ∀ n, ∀ x ∈ binds, (scopeOf (defAt i)).names.lookup x.1 = some .local ∨ ((scopeOf (defAt i)).names.lookup x.1 = some .cell ∧ ((cellsFrom n (scopeOf (defAt i)).names []).lookup x.1).isSome = true))
    (hnd : ((cellsFrom 0 (scopeOf (defAt i)).names []).map (·.1)).Nodup)
    (h : ∀ env A' s' L, EnvIs env L (scopeOf (defAt i)).names (cellsFrom (L + 1) (scopeOf (defAt i)).names []) → Room A' n →
      Led ι g s' ((L, .ns (bindL (kindIn (scopeOf (defAt i))) binds fun _ => none)) :: (cellObs (bindC (kindIn (scopeOf (defAt i))) binds fun _ => none) (cellsFrom (L + 1) (scopeOf (defAt i)).names []) ++ l)) →
      wpAny (model prog w) A' (execs (bodyOf (defAt i)) env) (fun fl s' => Q (retOf fl) s') (fun _ _ => False) s') :
    wpAny (model prog w) A (call (.ref f) args) Q E s := by
  obtain ⟨o, fd, h1, h2, h3, h4, h5, h6, h7, h8, h9, h10, h11⟩ := F.it
  refine wpAny_call ?_
  refine codeAny_call_function (body := bodyOf (defAt i)) R.depth0 (D.sub _ _ h1) h2 (by rw [h5]; exact hco) (by rw [h5]; exact hgen) h4 (h11.keeps D.sub) ?_
  rw [hbind fd h3 h9 h10]
  refine wpAny_pure ?_
  rw [h5, h6, h7, h8]
  refine wpAny_with_toks (n := s.toks) (Nat.le_refl _) ?_
  refine wpAny_newFunctionEnv_cells hk (hkind _) fun env he s' x htk => ?_
  subst he
  refine ⟨(G.nolimit.keeps D.sub).keeps x.toInCall.keep, codeAny_func ?_⟩
  refine wpAny_mono (h _ _ s' s.heap.objs.size ⟨hk, rfl, rfl, rfl, rfl, rfl⟩ (R.deeper _) ?_) (fun fl s'' hq => ?_) fun _ _ e => e.elim
  · obtain ⟨h₁, tk, e, _⟩ := x.done
    have hc := x.above
    refine Led.news (e := (s.heap.objs.size, .ns (bindL (kindIn (scopeOf (defAt i))) binds fun _ => none)) :: cellObs (bindC (kindIn (scopeOf (defAt i))) binds fun _ => none) (cellsFrom (s.heap.objs.size + 1) (scopeOf (defAt i)).names [])) D ?_ x.toInCall.keep ?_ ?_ ?_ htk
    · subst e; exact ⟨rfl, rfl, rfl⟩
    · intro p hp
      rcases List.mem_cons.mp hp with rfl | hp
      · exact size_none _
      · obtain ⟨q, hq, rfl⟩ := List.mem_map.mp hp
        exact above_none (Nat.le_of_lt (x.above q.1 q.2 hq))
    · intro p hp
      rcases List.mem_cons.mp hp with rfl | hp
      · exact x.toInCall.ns
      · obtain ⟨q, hq, rfl⟩ := List.mem_map.mp hp
        refine x.cell q.1 q.2 (lookup_of_mem_nodup ?_ hq)
        exact (cellsFrom_names (scopeOf (defAt i)).names 0 (s.heap.objs.size + 1) [] [] rfl) ▸ hnd
    · refine List.nodup_cons.mpr ⟨fun q => ?_, ?_⟩
      · obtain ⟨p, hp, e'⟩ := List.mem_map.mp q
        obtain ⟨q', hq', rfl⟩ := List.mem_map.mp hp
        have := x.above q'.1 q'.2 hq'
        exact absurd e' (Nat.ne_of_gt this)
      · unfold cellObs
        rw [List.map_map]
        have hap : (cellsFrom (s.heap.objs.size + 1) (scopeOf (defAt i)).names []).Pairwise fun x y => x.2 ≠ y.2 := x.apart
        exact List.pairwise_map.mpr hap
  · cases fl <;> exact hq
end
end Mine
end

section
open PySem PySem.W PySem.Calls PyProof.Rows
set_option Elab.async false
set_option maxRecDepth 100000
set_option linter.all false
namespace Mine
section
variable {prog : Program} {w : World} {A : Around} {E : Value → Shared → Prop} {s ι : Shared} {g : Heap} {l : List (Addr × Ob)} {env : Env} {L : Addr} {names : List (Str × NameKind)} {cells : List (Str × Addr)}
  {a b : Int} {x y : UInt64} {t u : Tok}

-- constants
theorem c_int {i : Int} {k : Nat} {pos : Pos} {Q : Value → Shared → Prop} (D : Led ι g s l) (h : ∀ t s', Led ι g s' l → Q (.int i t) s') : wpAny (model prog w) A (eval (.Constant (.int i) k pos) env) Q E s := wpAny_Constant_int (h _ _ D.tok)
theorem c_float {x : UInt64} {k : Nat} {pos : Pos} {Q : Value → Shared → Prop} (D : Led ι g s l) (h : ∀ t s', t ≠ 0 → Led ι g s' l → Q (.float x t) s') : wpAny (model prog w) A (eval (.Constant (.float x) k pos) env) Q E s := wpAny_Constant_float (h _ _ D.nz D.tok)
theorem c_floatK {n : Nat} {x : UInt64} {k : Nat} {pos : Pos} {Q : Value → Shared → Prop} (D : Led (bump ι n) g s l) (h : ∀ t s', n ≤ t → t ≠ 0 → Led (bump ι (t + 1)) g s' l → Q (.float x t) s') : wpAny (model prog w) A (eval (.Constant (.float x) k pos) env) Q E s := wpAny_Constant_float (h _ _ D.pos.2 D.nz (D.tok.raiseTo (Nat.succ_pos _) (Nat.le_refl _)))
theorem c_bool {b : Bool} {k : Nat} {pos : Pos} {Q : Value → Shared → Prop} (h : Q (.bool b) s) : wpAny (model prog w) A (eval (.Constant (.bool b) k pos) env) Q E s := fun _ _ _ => h

-- ints
variable {Q : Value → Shared → Prop}
theorem i_add (D : Led ι g s l) (h : ∀ t s', Led ι g s' l → Q (.int (a + b) t) s') : wpAny (model prog w) A (binaryOp .Add (.int a t) (.int b u)) Q E s := add_int (h _ _ D.tok)
theorem i_sub (D : Led ι g s l) (h : ∀ t s', Led ι g s' l → Q (.int (a - b) t) s') : wpAny (model prog w) A (binaryOp .Sub (.int a t) (.int b u)) Q E s := P.sub_int (h _ _ D.tok)
theorem i_iadd (D : Led ι g s l) (h : ∀ t s', Led ι g s' l → Q (.int (a + b) t) s') : wpAny (model prog w) A (inplaceOp .Add (.int a t) (.int b u)) Q E s := P.iadd_int (h _ _ D.tok)
theorem i_mul (D : Led ι g s l) (hm : IntMulOk a b) (h : ∀ t s', Led ι g s' l → Q (.int (a * b) t) s') : wpAny (model prog w) A (binaryOp .Mult (.int a t) (.int b u)) Q E s := mul_int (h _ _ D.tok) hm
theorem i_fdiv (D : Led ι g s l) (hb : b ≠ 0) (hp : Builtin.divisionGoesByPylong a b = false) (h : ∀ t s', Led ι g s' l → Q (.int (a.fdiv b) t) s') : wpAny (model prog w) A (binaryOp .FloorDiv (.int a t) (.int b u)) Q E s := floordiv_int hb (h _ _ D.tok) (.inl hp)
theorem i_mod (hA : A.handled = none) (D : Led ι g s l) (hb : b ≠ 0) (h : ∀ t s', Led ι g s' l → Q (.int (a.fmod b) t) s') : wpAny (model prog w) A (binaryOp .Mod (.int a t) (.int b u)) Q E s :=
  mod_int_or hA (fun e => absurd e hb) (fun _ => h _ _ D.tok)
theorem i_pow (D : Led ι g s l) (hn : 0 ≤ b) (hsz : (Builtin.Int.intBits a : Int) * b ≤ 2 ^ 27) (h : ∀ t s', Led ι g s' l → Q (.int (a ^ b.toNat) t) s') : wpAny (model prog w) A (binaryOp .Pow (.int a t) (.int b u)) Q E s := pow_int hn hsz (h _ _ D.tok)
theorem i_div (D : Led ι g s l) (hb : b ≠ 0) (hf : Float64.isInf (Float64.ofFrac (decide (a < 0) != decide (b < 0)) a.natAbs b.natAbs) = false)
    (h : ∀ t s', t ≠ 0 → Led ι g s' l → Q (.float (Float64.ofFrac (decide (a < 0) != decide (b < 0)) a.natAbs b.natAbs) t) s') : wpAny (model prog w) A (binaryOp .Div (.int a t) (.int b u)) Q E s :=
  AutoIntOps.truediv_2 (by simpa using hb) (by simp [hf]) (h _ _ D.nz D.tok)
theorem i_eq (h : Q (.bool (a == b)) s) : wpAny (model prog w) A (compareOp .Eq (.int a t) (.int b u)) Q E s := eq_int h
theorem i_ne (h : Q (.bool (a != b)) s) : wpAny (model prog w) A (compareOp .NotEq (.int a t) (.int b u)) Q E s := ne_int h
theorem i_lt (h : Q (.bool (decide (a < b))) s) : wpAny (model prog w) A (compareOp .Lt (.int a t) (.int b u)) Q E s := lt_int h
theorem i_gt (h : Q (.bool (decide (b < a))) s) : wpAny (model prog w) A (compareOp .Gt (.int a t) (.int b u)) Q E s := gt_int h
theorem i_ge (h : Q (.bool (decide (b ≤ a))) s) : wpAny (model prog w) A (compareOp .GtE (.int a t) (.int b u)) Q E s := ge_int h

-- floats
theorem f_add (D : Led ι g s l) (h : ∀ t s', t ≠ 0 → Led ι g s' l → Q (.float (Float64.add x y) t) s') : wpAny (model prog w) A (binaryOp .Add (.float x t) (.float y u)) Q E s := add_float (h _ _ D.nz D.tok)
theorem f_addK {n : Nat} (D : Led (bump ι n) g s l) (h : ∀ t s', n ≤ t → t ≠ 0 → Led (bump ι (t + 1)) g s' l → Q (.float (Float64.add x y) t) s') : wpAny (model prog w) A (binaryOp .Add (.float x t) (.float y u)) Q E s := add_float (h _ _ D.pos.2 D.nz (D.tok.raiseTo (Nat.succ_pos _) (Nat.le_refl _)))
theorem f_sub (D : Led ι g s l) (h : ∀ t s', t ≠ 0 → Led ι g s' l → Q (.float (Float64.sub x y) t) s') : wpAny (model prog w) A (binaryOp .Sub (.float x t) (.float y u)) Q E s := sub_float (h _ _ D.nz D.tok)
theorem f_subK {n : Nat} (D : Led (bump ι n) g s l) (h : ∀ t s', n ≤ t → t ≠ 0 → Led (bump ι (t + 1)) g s' l → Q (.float (Float64.sub x y) t) s') : wpAny (model prog w) A (binaryOp .Sub (.float x t) (.float y u)) Q E s := sub_float (h _ _ D.pos.2 D.nz (D.tok.raiseTo (Nat.succ_pos _) (Nat.le_refl _)))
theorem f_mul (D : Led ι g s l) (h : ∀ t s', t ≠ 0 → Led ι g s' l → Q (.float (Float64.mul x y) t) s') : wpAny (model prog w) A (binaryOp .Mult (.float x t) (.float y u)) Q E s := mul_float (h _ _ D.nz D.tok)
theorem f_div (D : Led ι g s l) (hb : Float64.isZero y = false) (h : ∀ t s', t ≠ 0 → Led ι g s' l → Q (.float (Float64.div x y) t) s') : wpAny (model prog w) A (binaryOp .Div (.float x t) (.float y u)) Q E s :=
  AutoFloatOps.truediv_1 (by simp [hb]) (h _ _ D.nz D.tok)
theorem f_mod (D : Led ι g s l) (hb : Float64.isZero y = false) (h : ∀ t s', t ≠ 0 → Led ι g s' l → Q (.float (Float64.divmod x y).snd t) s') : wpAny (model prog w) A (binaryOp .Mod (.float x t) (.float y u)) Q E s :=
  AutoFloatOps.mod_1 (by simp [hb]) (h _ _ D.nz D.tok)
theorem if_addK {n : Nat} (D : Led (bump ι n) g s l) (hf : b.natAbs < 2 ^ 1023) (h : ∀ t s', n ≤ t → t ≠ 0 → Led (bump ι (t + 1)) g s' l → Q (.float (Float64.add (Float64.ofInt b) x) t) s') : wpAny (model prog w) A (binaryOp .Add (.int b t) (.float x u)) Q E s := add_if_fits hf (h _ _ D.pos.2 D.nz (D.tok.raiseTo (Nat.succ_pos _) (Nat.le_refl _)))
theorem if_subK {n : Nat} (D : Led (bump ι n) g s l) (hf : b.natAbs < 2 ^ 1023) (h : ∀ t s', n ≤ t → t ≠ 0 → Led (bump ι (t + 1)) g s' l → Q (.float (Float64.sub (Float64.ofInt b) x) t) s') : wpAny (model prog w) A (binaryOp .Sub (.int b t) (.float x u)) Q E s := sub_if_fits hf (h _ _ D.pos.2 D.nz (D.tok.raiseTo (Nat.succ_pos _) (Nat.le_refl _)))
theorem fi_mul (D : Led ι g s l) (hf : b.natAbs < 2 ^ 1023) (h : ∀ t s', t ≠ 0 → Led ι g s' l → Q (.float (Float64.mul x (Float64.ofInt b)) t) s') : wpAny (model prog w) A (binaryOp .Mult (.float x t) (.int b u)) Q E s := mul_fi_fits hf (h _ _ D.nz D.tok)
theorem fi_mulK {n : Nat} (D : Led (bump ι n) g s l) (hf : b.natAbs < 2 ^ 1023) (h : ∀ t s', n ≤ t → t ≠ 0 → Led (bump ι (t + 1)) g s' l → Q (.float (Float64.mul x (Float64.ofInt b)) t) s') : wpAny (model prog w) A (binaryOp .Mult (.float x t) (.int b u)) Q E s := mul_fi_fits hf (h _ _ D.pos.2 D.nz (D.tok.raiseTo (Nat.succ_pos _) (Nat.le_refl _)))
theorem f_lt (h : Q (.bool (Float64.cmp x y == some Ordering.lt)) s) : wpAny (model prog w) A (compareOp .Lt (.float x t) (.float y u)) Q E s := AutoFloatOps.lt_0 h
theorem f_gt (h : Q (.bool (Float64.cmp x y == some Ordering.gt)) s) : wpAny (model prog w) A (compareOp .Gt (.float x t) (.float y u)) Q E s := AutoFloatOps.gt_0 h
theorem f_eq (h : Q (.bool (Float64.cmp x y == some Ordering.eq)) s) : wpAny (model prog w) A (compareOp .Eq (.float x t) (.float y u)) Q E s := AutoFloatOps.eq_0 h
theorem f_ne (h : Q (.bool (Float64.cmp x y != some Ordering.eq)) s) : wpAny (model prog w) A (compareOp .NotEq (.float x t) (.float y u)) Q E s := AutoFloatOps.ne_0 h
theorem f_le (h : Q (.bool (Float64.cmp x y == some Ordering.lt || Float64.cmp x y == some Ordering.eq)) s) : wpAny (model prog w) A (compareOp .LtE (.float x t) (.float y u)) Q E s := AutoFloatOps.le_0 h

theorem b_truthy {b : Bool} {Q : Bool → Shared → Prop} (h : Q b s) : wpAny (model prog w) A (truthy (.bool b)) Q E s := wpAny_truthy_bool h

-- statements
noncomputable def After (prog : Program) (w : World) (A : Around) (env : Env) (rest : List Stmt) (Q : Flow → Shared → Prop) (E : Value → Shared → Prop) (f : Flow) (s : Shared) : Prop :=
  match f with
  | .next => wpAny (model prog w) A (execs rest env) Q E s
  | f => Q f s
variable {rest : List Stmt} {Q : Flow → Shared → Prop}
theorem after_next (h : wpAny (model prog w) A (execs rest env) Q E s) : After prog w A env rest Q E .next s := h
theorem after_ret {v : Value} (h : Q (.ret v) s) : After prog w A env rest Q E (.ret v) s := h
theorem x_nil (h : Q .next s) : wpAny (model prog w) A (execs [] env) Q E s := wpAny_execs_nil h
theorem x_cons {st : Stmt} (h : wpAny (model prog w) A (exec st env) (After prog w A env rest Q E) E s) : wpAny (model prog w) A (execs (st :: rest) env) Q E s :=
  wpAny_execs_cons (wpAny_mono h (fun f s' hf => by cases f <;> exact hf) fun _ _ e => e)
theorem x_assign {x : Str} {p p' : Pos} {value : PySem.Expr} (h : wpAny (model prog w) A (eval value env) (fun v s₁ => wpAny (model prog w) A (storeName env x v) (fun _ s₂ => wpAny (model prog w) A (execs rest env) Q E s₂) E s₁) E s)
    (hs : swapsWith value (some (.Name x p)) p'.line env = pure false) : wpAny (model prog w) A (execs (.Assign [.Name x p] value p' :: rest) env) Q E s :=
  wpAny_execs_cons (wpAny_Assign_Name h hs)
theorem x_aug {x : Str} {p p' : Pos} {op : Operator} {value : PySem.Expr} (h : wpAny (model prog w) A (loadName env x) (fun old s₁ => wpAny (model prog w) A (eval value env) (fun v s₂ => wpAny (model prog w) A (inplaceOp op old v)
      (fun r s₃ => wpAny (model prog w) A (storeName env x r) (fun _ s₄ => wpAny (model prog w) A (execs rest env) Q E s₄) E s₃) E s₂) E s₁) E s) : wpAny (model prog w) A (execs (.AugAssign (.Name x p) op value p' :: rest) env) Q E s :=
  wpAny_execs_cons (wpAny_AugAssign_Name h)
theorem x_if {test : PySem.Expr} {body orelse : List Stmt} {p : Pos} (h : wpAny (model prog w) A (isTrue test env (eval test env)) (fun b s₂ => if b = true then wpAny (model prog w) A (execs body env) (After prog w A env rest Q E) E s₂ else wpAny (model prog w) A (execs orelse env) (After prog w A env rest Q E) E s₂) E s) :
    wpAny (model prog w) A (execs (.If test body orelse p :: rest) env) Q E s := x_cons (wpAny_If h)
theorem x_ret {e : PySem.Expr} {p : Pos} (h : wpAny (model prog w) A (eval e env) (fun v s' => Q (.ret v) s') E s) : wpAny (model prog w) A (execs (.Return (some e) p :: rest) env) Q E s := wpAny_execs_cons (wpAny_Return_some h)
theorem x_expr {e : PySem.Expr} {p : Pos} (hi : interactive env = false) (hs : swapsWith e none p.line env = pure false) (h : wpAny (model prog w) A (eval e env) (fun v s' => v = .none ∧ wpAny (model prog w) A (execs rest env) Q E s') E s) :
    wpAny (model prog w) A (execs (.Expr e p :: rest) env) Q E s :=
  wpAny_execs_cons (wpAny_Expr (wpAny_mono h (fun v s' hv => by obtain ⟨rfl, h'⟩ := hv; exact h') fun _ _ e => e) hi hs)

-- expressions
variable {Q : Value → Shared → Prop}
theorem e_bin {p : Pos} {op : Operator} {e₁ e₂ : PySem.Expr} (h : wpAny (model prog w) A (eval e₁ env) (fun a s₁ => wpAny (model prog w) A (eval e₂ env) (fun b s₂ => wpAny (model prog w) A (binaryOp op a b) Q E s₂) E s₁) E s) :
    wpAny (model prog w) A (eval (.BinOp e₁ op e₂ p) env) Q E s := wpAny_BinOp h
theorem e_cmp {p : Pos} {op : CmpOp} {e₁ e₂ : PySem.Expr} (hm : behindInMarks op e₂ = false) (h : wpAny (model prog w) A (eval e₁ env) (fun a s₁ => wpAny (model prog w) A (eval e₂ env) (fun b s₂ => wpAny (model prog w) A (compareOp op a b) Q E s₂) E s₁) E s) :
    wpAny (model prog w) A (eval (.Compare e₁ [op] [e₂] p) env) Q E s := wpAny_Compare1 h hm
theorem t_cmp {p : Pos} {op : CmpOp} {e₁ e₂ : PySem.Expr} {whole : Sem Value} {Q : Bool → Shared → Prop} (hm : behindInMarks op e₂ = false) (h : wpAny (model prog w) A (eval e₁ env) (fun a s₁ => wpAny (model prog w) A (eval e₂ env) (fun b s₂ => wpAny (model prog w) A (compareOp op a b)
      (fun c s₃ => wpAny (model prog w) A (truthy c) Q E s₃) E s₂) E s₁) E s) : wpAny (model prog w) A (isTrue (.Compare e₁ [op] [e₂] p) env whole) Q E s := wpAny_isTrue_Compare1 h hm
theorem if_t {c : Bool} {P R : Prop} (hc : c = true) (h : P) : if c = true then P else R := by rw [if_pos hc]; exact h
theorem if_f {c : Bool} {P R : Prop} (hc : c = false) (h : R) : if c = true then P else R := by rw [hc, if_neg (by decide)]; exact h

-- displays
theorem e_tup {p : Pos} {k : Nat} {elts : List PySem.Expr} (h : wpAny (model prog w) A (spliced (backTo p (starEach elts env))) (fun vs s₁ => wpAny (model prog w) A (newTuple vs) Q E s₁) E s) : wpAny (model prog w) A (eval (.Tuple elts k p) env) Q E s := Tuple_ h
theorem e_list {p : Pos} {elts : List PySem.Expr} (h : wpAny (model prog w) A (spliced (backTo p (starEach elts env))) (fun vs s₁ => wpAny (model prog w) A (newList vs) Q E s₁) E s) : wpAny (model prog w) A (eval (.List elts p) env) Q E s := List_ h
theorem n_tup {vs : List Value} {q : Addr × Ob} (D : Led ι g s (q :: l)) (hsz : vs.length ≤ sizeLine) (h : ∀ a s', Led ι g s' (q :: (a, .tup vs) :: l) → Q (.ref a) s') : wpAny (model prog w) A (newTuple vs) Q E s := by
  refine wpAny_newObj_type (h _ _ ?_) (by show vs.toArray.size ≤ sizeLine; rw [List.size_toArray]; exact hsz)
  refine Led.perm (Led.new (a := s.heap.objs.size) (ob := .tup vs) (n := s.toks) D (fun b o e => Heap.get?_push_of_some _ e) (size_none _) ?_) (List.Perm.swap _ _ _)
  exact ⟨_, Heap.get?_push_size _ rfl⟩
theorem n_list {vs : List Value} {q : Addr × Ob} (D : Led ι g s (q :: l)) (hsz : vs.length ≤ sizeLine) (h : ∀ a s', Led ι g s' (q :: (a, .list vs) :: l) → Q (.ref a) s') : wpAny (model prog w) A (newList vs) Q E s := by
  refine wpAny_newObj_type (h _ _ ?_) (by show vs.toArray.size ≤ sizeLine; rw [List.size_toArray]; exact hsz)
  refine Led.perm (Led.new (a := s.heap.objs.size) (ob := .list vs) (n := s.toks) D (fun b o e => Heap.get?_push_of_some _ e) (size_none _) ?_) (List.Perm.swap _ _ _)
  exact ⟨_, Heap.get?_push_size _ rfl⟩
theorem sp_end {p : Pos} {Q : List Value → Shared → Prop} (h : Q [] s) : wpAny (model prog w) A (spliced (backTo p (starEach [] env))) Q E s := spliced_none h
theorem sp_more {e : PySem.Expr} {more : List PySem.Expr} {p : Pos} {Q : List Value → Shared → Prop} (he : starEach (e :: more) env = (false, eval e env) :: starEach more env)
    (h : wpAny (model prog w) A (eval e env) (fun v s₁ => wpAny (model prog w) A (spliced (backTo p (starEach more env))) (fun vs s₂ => Q (v :: vs) s₂) E s₁) E s) : wpAny (model prog w) A (spliced (backTo p (starEach (e :: more) env))) Q E s := spliced_more h he
theorem e_call {x : Str} {p pos : Pos} {args : List PySem.Expr} (h : wpAny (model prog w) A (eval (.Name x p) env) (fun f s₁ => wpAny (model prog w) A (callWith pos f [] (backTo pos (starEach args env)) []) Q E s₁) E s) :
    wpAny (model prog w) A (eval (.Call (.Name x p) args [] pos) env) Q E s := Call_Name rfl h
theorem cw_fn {f : Addr} {i : Nat} {e : PySem.Expr} {more : List PySem.Expr} {pos : Pos} (F : FnAt g f i) (he : starEach (e :: more) env = (false, eval e env) :: starEach more env)
    (h : wpAny (model prog w) A (spliced (backTo pos (starEach (e :: more) env))) (fun vs s₁ => Sub g s₁.heap ∧ wpAny (model prog w) A (call (.ref f) vs) Q E s₁) E s) :
    wpAny (model prog w) A (callWith pos (.ref f) [] (backTo pos (starEach (e :: more) env)) []) Q E s := by
  obtain ⟨o, fd, h1, h2, _⟩ := F.it
  rw [he] at h ⊢
  exact callWith_function (evalArgs_plain (wpAny_mono h (fun vs s₁ hv => ⟨⟨hv.1 _ _ h1, h2⟩, hv.2⟩) fun _ _ e => e))
theorem cw_blt {id : String} {e : PySem.Expr} {more : List PySem.Expr} {pos : Pos} (he : starEach (e :: more) env = (false, eval e env) :: starEach more env) (hpl : (backTo pos (starEach more env)).any (·.1) = false)
    (h : wpAny (model prog w) A (spliced (backTo pos (starEach (e :: more) env))) (fun vs s₁ => wpAny (model prog w) A (call (.builtin id) vs) Q E s₁) E s) :
    wpAny (model prog w) A (callWith pos (.builtin id) [] (backTo pos (starEach (e :: more) env)) []) Q E s := by
  rw [he] at h ⊢
  exact callWith_builtin (by show (false || (backTo pos (starEach more env)).any (·.1)) = false; rw [hpl]; rfl) (evalArgs_plain h)
theorem cw_typ {id : String} {e : PySem.Expr} {more : List PySem.Expr} {pos : Pos} (he : starEach (e :: more) env = (false, eval e env) :: starEach more env) (hpl : (backTo pos (starEach more env)).any (·.1) = false)
    (h : wpAny (model prog w) A (spliced (backTo pos (starEach (e :: more) env))) (fun vs s₁ => wpAny (model prog w) A (call (.type id) vs) Q E s₁) E s) :
    wpAny (model prog w) A (callWith pos (.type id) [] (backTo pos (starEach (e :: more) env)) []) Q E s := PyProof.Rows.callWith_type1 h he hpl
end
end Mine
end

section
open PySem PySem.W PySem.Calls PyProof.Rows
set_option Elab.async false
set_option maxRecDepth 100000
set_option linter.all false
namespace Mine

structure IterOk (prog : Program) (w : World) (A : Around) (g : Heap) (ob : Nat → Ob) (n : Nat) (P : Nat → Value → Prop) : Prop where
  item : ∀ (i : Nat) (I : Addr) (ι s : Shared) (g' : Heap) (l : List (Addr × Ob)) (Q : Option Value → Shared → Prop) (E : Value → Shared → Prop), Sub g g' → i < n → Led ι g' s ((I, ob i) :: l) →
    (∀ v s', P i v → Led ι g' s' ((I, ob (i + 1)) :: l) → Q (some v) s') → wpAny (model prog w) A (pyNext (.ref I)) Q E s
  done : ∀ (I : Addr) (ι s : Shared) (g' : Heap) (l : List (Addr × Ob)) (Q : Option Value → Shared → Prop) (E : Value → Shared → Prop), Sub g g' → Led ι g' s ((I, ob n) :: l) →
    (∀ s', Led ι g' s' l → Q none s') → wpAny (model prog w) A (pyNext (.ref I)) Q E s
  self : ∀ (i : Nat) (I : Addr) (ι s : Shared) (g' : Heap) (l : List (Addr × Ob)) (Q : Value → Shared → Prop) (E : Value → Shared → Prop), Led ι g' s ((I, ob i) :: l) → Q (.ref I) s → wpAny (model prog w) A (pyIter (.ref I)) Q E s

section
variable {prog : Program} {w : World} {A : Around} {E : Value → Shared → Prop} {s ι : Shared} {g : Heap} {l : List (Addr × Ob)} {env : Env} {L : Addr} {names : List (Str × NameKind)} {cells : List (Str × Addr)}

theorem Led.head_ne {p : Addr × Ob} (D : Led ι g s (p :: l)) : g.get? p.1 = none ∧ ∀ q ∈ l, q.1 ≠ p.1 :=
  ⟨D.off p (.head _), fun q hq e => (List.nodup_cons.mp D.apart).1 (List.mem_map.mpr ⟨q, hq, e⟩)⟩
/-- the head's address may be anything afterwards -/
theorem Led.lose {p : Addr × Ob} (D : Led ι g s (p :: l)) {h' : Heap} {n : Nat} (k : ∀ b o, b ≠ p.1 → s.heap.get? b = some o → h'.get? b = some o) (hn : s.toks ≤ n := by first | exact Nat.le_add_right _ _ | omega) : Led ι g { s with heap := h', toks := n } l :=
  D.drop1.off1 k D.head_ne.1 D.head_ne.2 hn

theorem iter_list {a : Addr} {xs : List Value} (hh : A.handled = none) (hl : g.IsList a xs.toArray) : IterOk prog w A g (fun i => .liter a i) xs.length (fun i v => xs[i]? = some v) where
  item := fun i I ι s g' l Q E hk hi D h => by
    have hls : s.heap.IsList a xs.toArray := hl.at fun o e => D.sub _ _ (hk _ _ e)
    refine wpAny_pyNext_list_item (i := i) (D.here _ (.head _)) hls (x := xs[i]) (by simp [hi]) fun h' hit hs => ?_
    exact h _ { s with heap := h' } (by simp [hi]) (Led.turn (pre := []) (n := s.toks) (ob := .liter a i) (ob' := .liter a (i + 1)) D (fun b o hb e => (hs.2 b hb).trans e) hit)
  done := fun I ι s g' l Q E hk D h => by
    have hls : s.heap.IsList a xs.toArray := hl.at fun o e => D.sub _ _ (hk _ _ e)
    exact wpAny_pyNext_list_end hh (i := xs.length) (D.here _ (.head _)) hls (by simp) fun h' he => h { s with heap := h' } (Led.lose (n := s.toks) D he)
  self := fun i I ι s g' l Q E D h => wpAny_pyIter_listiter (D.here _ (.head _)) h

theorem iter_tup {a : Addr} {xs : List Value} (hh : A.handled = none) (hl : IsTup g a xs.toArray) : IterOk prog w A g (fun i => .titer a i) xs.length (fun i v => xs[i]? = some v) where
  item := fun i I ι s g' l Q E hk hi D h => by
    have hls : IsTup s.heap a xs.toArray := hl.keeps fun b o e => D.sub _ _ (hk _ _ e)
    refine next_tuple_item (i := i) (D.here _ (.head _)) hls (x := xs[i]) (by simp [hi]) fun h' hit hs => ?_
    exact h _ { s with heap := h' } (by simp [hi]) (Led.turn (pre := []) (n := s.toks) (ob := .titer a i) (ob' := .titer a (i + 1)) D (fun b o hb e => (hs.2 b hb).trans e) hit)
  done := fun I ι s g' l Q E hk D h => by
    have hls : IsTup s.heap a xs.toArray := hl.keeps fun b o e => D.sub _ _ (hk _ _ e)
    exact next_tuple_end hh (i := xs.length) (D.here _ (.head _)) hls (by simp) fun h' he => h { s with heap := h' } (Led.lose (n := s.toks) D he)
  self := fun i I ι s g' l Q E D h => by
    have : IsTupIter s.heap I a i := D.here (I, .titer a i) (.head _)
    exact wpAny_pyIter_tupleiter this h

theorem iter_range (hh : A.handled = none) (a c : Int) (n : Nat) : IterOk prog w A g (fun i => .riter (a + (i : Nat) * c) ((n : Int) - (i : Nat)) c) n (fun i v => ∃ t, v = .int (a + (i : Nat) * c) t) where
  item := fun i I ι s g' l Q E hk hi D h => by
    refine wpAny_pyNext_range_item (D.here _ (.head _)) (by omega) fun h' hit hs => ?_
    refine h _ _ ⟨_, rfl⟩ (Led.turn (pre := []) (ob := .riter (a + (i : Nat) * c) ((n : Int) - (i : Nat)) c) (ob' := .riter (a + ((i + 1 : Nat) : Int) * c) ((n : Int) - ((i + 1 : Nat) : Int)) c) D (fun b o hb e => (hs.2 b hb).trans e) ?_)
    have e1 : a + ((i + 1 : Nat) : Int) * c = a + (i : Int) * c + c := by push_cast; rw [Int.add_mul, Int.one_mul, Int.add_assoc]
    have e2 : (n : Int) - ((i + 1 : Nat) : Int) = (n : Int) - (i : Int) - 1 := by push_cast; omega
    rw [e1, e2]; exact hit
  done := fun I ι s g' l Q E hk D h => by
    exact wpAny_pyNext_range_end hh (D.here _ (.head _)) (by omega) fun h' he => h { s with heap := h' } (Led.lose (n := s.toks) D he)
  self := fun i I ι s g' l Q E D h => by
    have W := Walks.range (prog := prog) (w := w) hh I a c n
    exact W.self i s Q E (D.here _ (.head _)) h

-- iter(x)
theorem it_list {a : Addr} {xs : List Value} {Q : Value → Shared → Prop} (D : Led ι g s l) (hl : g.IsList a xs.toArray) (h : ∀ I s', Led ι g s' ((I, .liter a 0) :: l) → Q (.ref I) s') : wpAny (model prog w) A (pyIter (.ref a)) Q E s :=
  wpAny_pyIter_list (hl.at fun o e => D.sub _ _ e) (h _ _ (Led.new (n := s.toks) D (fun b o e => Heap.get?_push_of_some _ e) (size_none _) ⟨_, Heap.get?_push_size _ rfl, rfl, rfl⟩))
theorem it_tup {a : Addr} {xs : List Value} {Q : Value → Shared → Prop} (D : Led ι g s l) (hl : IsTup g a xs.toArray) (h : ∀ I s', Led ι g s' ((I, .titer a 0) :: l) → Q (.ref I) s') : wpAny (model prog w) A (pyIter (.ref a)) Q E s :=
  iter_tuple (hl.keeps fun b o e => D.sub _ _ e) (h _ _ (Led.new (n := s.toks) D (fun b o e => Heap.get?_push_of_some _ e) (size_none _) ⟨_, Heap.get?_push_size _ rfl, rfl, rfl⟩))
theorem it_range {r : Addr} {a b c : Int} {n : Nat} {Q : Value → Shared → Prop} (D : Led ι g s ((r, .rng a b c) :: l)) (hs : Builtin.Range.small a b c = true) (hn : Builtin.Range.rangeSize a b c = n)
    (h : ∀ I s', Led ι g s' ((I, .riter a n c) :: l) → Q (.ref I) s') : wpAny (model prog w) A (pyIter (.ref r)) Q E s := by
  obtain ⟨t, u, v, hr⟩ := D.here _ (.head _)
  refine wpAny_pyIter_range hr hs (h _ _ ?_)
  refine Led.new (n := s.toks) D.drop1 (fun b o e => Heap.get?_push_of_some _ e) (size_none _) ?_
  show IsRangeIter _ _ a n c
  rw [hn]; exact Heap.get?_push_size _ rfl
-- range(..)
theorem call_rng1 {n : Int} {t : Tok} {Q : Value → Shared → Prop} (D : Led ι g s l) (h : ∀ r s', Led ι g s' ((r, .rng 0 n 1) :: l) → Q (.ref r) s') : wpAny (model prog w) A (call (.type "range") [.int n t]) Q E s :=
  call_range_1 (h _ _ (Led.new D (fun b o e => Heap.get?_push_of_some _ e) (size_none _) ⟨_, _, _, Heap.get?_push_size _ rfl⟩))
theorem call_rng2 {a b : Int} {t u : Tok} {Q : Value → Shared → Prop} (D : Led ι g s l) (h : ∀ r s', Led ι g s' ((r, .rng a b 1) :: l) → Q (.ref r) s') : wpAny (model prog w) A (call (.type "range") [.int a t, .int b u]) Q E s :=
  call_range_2 (h _ _ (Led.new D (fun b o e => Heap.get?_push_of_some _ e) (size_none _) ⟨_, _, _, Heap.get?_push_size _ rfl⟩))
theorem call_rng3 {a b c : Int} {t u v : Tok} {Q : Value → Shared → Prop} (D : Led ι g s l) (hc : c ≠ 0) (hp : Builtin.divisionGoesByPylong (b - a) c = false) (h : ∀ r s', Led ι g s' ((r, .rng a b c) :: l) → Q (.ref r) s') :
    wpAny (model prog w) A (call (.type "range") [.int a t, .int b u, .int c v]) Q E s :=
  call_range_3 hc (h _ _ (Led.new (n := s.toks) D (fun b o e => Heap.get?_push_of_some _ e) (size_none _) ⟨_, _, _, Heap.get?_push_size _ rfl⟩)) (.inl hp)

/-- the end of a turn of a loop -/
noncomputable def TurnEnd (ι : Shared) (J : Heap → List (Addr × Ob) → Prop) (g : Heap) (tl : List (Addr × Ob)) (fl : Flow) (s : Shared) : Prop :=
  fl = .next ∧ ∃ g' f, Sub g g' ∧ J g' f ∧ Led ι g' s (f ++ tl)

theorem for_iter {ob : Nat → Ob} {n : Nat} {P : Nat → Value → Prop} {target : PySem.Expr} {body : List Stmt} {Q : Flow → Shared → Prop} (IO : IterOk prog w A g ob n P) (J : Nat → Heap → List (Addr × Ob) → Prop) {f₀ : List (Addr × Ob)} {I : Addr}
    (D : Led ι g s ((I, ob 0) :: (f₀ ++ l))) (h0 : J 0 g f₀) (ht : ∀ v, letOwnedTupleGo target (.ref I) v = pure ())
    (turn : ∀ i v g' f tl s', i < n → P i v → Sub g g' → J i g' f → Led ι g' s' (f ++ tl) →
      wpAny (model prog w) A (assign target env v) (fun _ s₂ => wpAny (model prog w) A (execs body env) (TurnEnd ι (J (i + 1)) g' tl) (fun _ _ => False) s₂) (fun _ _ => False) s')
    (done : ∀ g' f s', Sub g g' → J n g' f → Led ι g' s' (f ++ l) → Q .next s') :
    codeAny (model prog w) A (.forLoop target (.ref I) body [] env) (fun r s' => match r with | .ok fl => Q fl s' | .error e => cameBackBy (model prog w) A env E e s') s := by
  refine codeAny_forLoop (fun k s' => ∃ i g' f, i ≤ n ∧ k = n + 1 - i ∧ Sub g g' ∧ J i g' f ∧ Led ι g' s' ((I, ob i) :: (f ++ l))) ?_ (n + 1) ⟨0, g, f₀, Nat.zero_le _, rfl, Sub.refl g, h0, D⟩ ht
  rintro k s' ⟨i, g', f, hi, rfl, hk, hJ, D'⟩
  by_cases hlt : i < n
  · refine IO.item i I ι s' g' _ _ _ hk hlt D' fun v s₁ hP D₁ => ?_
    have D₂ : Led ι g' s₁ (f ++ (I, ob (i + 1)) :: l) := D₁.perm List.perm_middle
    refine wpAny_mono (turn i v g' f _ s₁ hlt hP hk hJ D₂) (fun _ s₂ h₂ => wpAny_mono h₂ (fun fl s₃ h₃ => ?_) fun _ _ e => e.elim) fun _ _ e => e.elim
    obtain ⟨rfl, g'', f', hk', hJ', D₃⟩ := h₃
    exact ⟨n + 1 - (i + 1), by omega, i + 1, g'', f', hlt, rfl, hk.trans hk', hJ', D₃.perm List.perm_middle.symm⟩
  · have : i = n := by omega
    subst this
    exact IO.done I ι s' g' _ _ _ hk D' fun s₁ D₁ => wpAny_execs_nil (done g' f s₁ hk hJ D₁)

theorem x_for {rest : List Stmt} {target iter : PySem.Expr} {body : List Stmt} {p : Pos} {Q : Flow → Shared → Prop} (hs : ∀ x, foldedSetIterable iter env x = pure x)
    (h : wpAny (model prog w) A (eval iter env) (fun x s₁ => wpAny (model prog w) A (pyIter x) (fun it s₂ =>
      codeAny (model prog w) A (.forLoop target it body [] env) (fun r s' => match r with | .ok f => After prog w A env rest Q E f s' | .error e => cameBackBy (model prog w) A env E e s') s₂) E s₁) E s) :
    wpAny (model prog w) A (execs (.For target iter body [] p :: rest) env) Q E s := x_cons (wpAny_For h hs)

theorem x_while {rest : List Stmt} {test : PySem.Expr} {body : List Stmt} {p : Pos} {Q : Flow → Shared → Prop} (J : Nat → Heap → List (Addr × Ob) → Prop) {f₀ : List (Addr × Ob)} (k₀ : Nat)
    (D : Led ι g s (f₀ ++ l)) (h0 : J k₀ g f₀)
    (turn : ∀ k g' f s', Sub g g' → J k g' f → Led ι g' s' (f ++ l) →
      wpAny (model prog w) A (isTrue test env (eval test env)) (fun b s₂ => if b = true then wpAny (model prog w) A (execs body env) (fun fl s₃ => fl = .next ∧ ∃ k' g'' f', k' < k ∧ Sub g' g'' ∧ J k' g'' f' ∧ Led ι g'' s₃ (f' ++ l)) (fun _ _ => False) s₂
        else wpAny (model prog w) A (execs rest env) Q E s₂) (fun _ _ => False) s') :
    wpAny (model prog w) A (execs (.While test body [] p :: rest) env) Q E s := by
  refine x_cons (wpAny_While ?_)
  refine codeAny_whileLoop (fun k s' => ∃ g' f, Sub g g' ∧ J k g' f ∧ Led ι g' s' (f ++ l)) ?_ k₀ ⟨g, f₀, Sub.refl g, h0, D⟩
  rintro k s' ⟨g', f, hk, hJ, D'⟩
  refine wpAny_mono (turn k g' f s' hk hJ D') (fun b s₂ h₂ => ?_) fun _ _ e => e.elim
  cases b with
  | true =>
    simp only [if_true] at h₂ ⊢
    refine wpAny_mono h₂ (fun fl s₃ h₃ => ?_) fun _ _ e => e.elim
    obtain ⟨rfl, k', g'', f', hlt, hk', hJ', D''⟩ := h₃
    exact ⟨k', hlt, g'', f', hk.trans hk', hJ', D''⟩
  | false =>
    simp only [Bool.false_eq_true, if_false] at h₂ ⊢
    exact wpAny_execs_nil h₂

theorem a_name {x : Str} {p : Pos} {v : Value} {Q : Unit → Shared → Prop} (h : wpAny (model prog w) A (storeName env x v) Q E s) : wpAny (model prog w) A (assign (.Name x p) env v) Q E s := wpAny_assign_Name h
end
end Mine
end

section
open PySem PySem.W PySem.Calls PyProof.Rows
set_option Elab.async false
set_option maxRecDepth 100000
set_option linter.all false
namespace Mine

theorem cellsFrom_append (n : Nat) : ∀ (names : List (Str × NameKind)) (acc : List (Str × Addr)), cellsFrom n names acc = cellsFrom n names [] ++ acc := by
  intro names
  induction names generalizing n with
  | nil => intro acc; rfl
  | cons p r ih =>
    intro acc
    obtain ⟨x, k⟩ := p
    unfold cellsFrom
    split
    · rw [ih (n + 1) ((x, n) :: acc), ih (n + 1) [(x, n)], List.append_assoc]; rfl
    · exact ih n acc

noncomputable def relNames (inner outer : List (Str × NameKind)) : List (Str × NameKind) := inner.map fun p => if (p.2 == .free && outer.lookup p.1 == some .cell) then (p.1, .cell) else p

section
variable {prog : Program} {w : World} {A : Around} {E : Value → Shared → Prop} {s ι : Shared} {g : Heap} {l : List (Addr × Ob)} {env : Env} {L : Addr} {names : List (Str × NameKind)} {cells : List (Str × Addr)}

theorem relabel_names (V : EnvIs env L names cells) (scope : Scope) : (relabel scope env).names = relNames scope.names names := by
  unfold relabel relNames
  refine List.map_congr_left fun p hp => ?_
  obtain ⟨n, k⟩ := p
  simp only [V.kind, V.kindOf]
  simp

theorem newCompEnv {scope : Scope} {cl : List (Str × Addr)} {globals : Addr} {qual : Str} {func : Option Addr} {code : Value} {builtins : Addr} {Q : Env → Shared → Prop}
    (h : Q (newEnv scope s.heap.objs.size globals (cellsFrom (s.heap.objs.size + 1) scope.names cl) qual func code (some env) builtins) { s with heap := pushCells (s.heap.push { cls := .type "dict", data := .dict #[] }) scope.names }) :
    wpAny (model prog w) A (newFunctionEnv scope globals cl [] qual func code (some env) builtins) Q E s := by
  simp only [newFunctionEnv, Option.isSome_some, if_true]
  refine wpAny_bind (wpAny_alloc ?_)
  refine wpAny_bind (wpAny_layCells _ (fun name kind cells => by cases hkc : kind == NameKind.cell <;> simp [hkc]) _ _ _ _ ?_)
  rw [show ({ s with heap := s.heap.push { cls := .type "dict", data := .dict #[] } } : Shared).heap.objs.size = s.heap.objs.size + 1 from Heap.size_push ..]
  refine wpAny_bind ?_
  rw [List.forIn_nil]
  exact wpAny_pure (wpAny_pure h)

theorem strKeys_nil : StrKeys (#[] : Array DictEntry) := by intro e he; simp at he

/-- the block of a comprehension with one clause -/
theorem comp_core {ob : Nat → Ob} {n : Nat} {P : Nat → Value → Prop} {elt target iter : PySem.Expr} {ifs : List PySem.Expr} {scope : Scope} {cl : List (Str × Addr)} {pos : Pos} {I : Addr} {RR : Value → Addr → Result → Shared → Prop}
    (V : EnvIs env L names cells) (IO : IterOk prog w A g ob n P) (J : Nat → Heap → List Value → Nat → Prop) (hmono : ∀ i g ys n n', n ≤ n' → J i g ys n → J i g ys n') (D : Led ι g s ((I, ob 0) :: l)) (h0 : J 0 g [] s.toks) (hkind : scope.kind = .function)
    (hnd : ((cellsFrom 0 scope.names []).map (·.1)).Nodup) (hsz : n ≤ sizeLine) (hlen : ∀ i g' ys n', i ≤ n → J i g' ys n' → ys.length ≤ i) (ht : ∀ v, letOwnedTupleGo target (.ref I) v = pure ())
    (turn : ∀ cenv C i v g' ys mc cm tl s', EnvIs cenv C (relNames scope.names names) (cellsFrom (C + 1) scope.names [] ++ cl) → i < n → P i v → Sub g g' → J i g' ys s'.toks →
      Led ι g' s' ((C, .ns mc) :: (cellObs cm (cellsFrom (C + 1) scope.names []) ++ (l ++ tl))) →
      wpAny (model prog w) A (assign target cenv v) (fun _ s₂ =>
        wpAny (model prog w) A (forIn ifs true fun c r => if r = true then do let ok ← isTrue c cenv (eval c cenv); pure (ForInStep.yield ok) else pure (ForInStep.yield r)) (fun ok s₃ =>
          if ok = true then wpAny (model prog w) A (eval elt cenv) (fun y s₄ => ∃ g'' mc' cm', Sub g' g'' ∧ J (i + 1) g'' (ys ++ [y]) s₄.toks ∧ Led ι g'' s₄ ((C, .ns mc') :: (cellObs cm' (cellsFrom (C + 1) scope.names []) ++ (l ++ tl)))) (fun _ _ => False) s₃
          else ∃ g'' mc' cm', Sub g' g'' ∧ J (i + 1) g'' ys s₃.toks ∧ Led ι g'' s₃ ((C, .ns mc') :: (cellObs cm' (cellsFrom (C + 1) scope.names []) ++ (l ++ tl)))) (fun _ _ => False) s₂) (fun _ _ => False) s')
    (done : ∀ a C g' ys mc cm s', Sub g g' → J n g' ys s'.toks → Led ι g' s' ((C, .ns mc) :: (cellObs cm (cellsFrom (C + 1) scope.names []) ++ (a, .list ys) :: l)) → RR (.ref a) C (.ok .next) s') :
    wpAny (model prog w) A (newList []) (fun acc s₃ => wpAny (model prog w) A (newFunctionEnv scope env.globals cl [] env.qual none .none (some env)) (fun cenv s₄ =>
      codeAny (model prog w) A (.compStart (.ListComp elt [⟨target, iter, ifs, 0⟩] scope pos) 0 (.ref I) acc { cenv with scope := relabel scope env }) (RR acc cenv.locals) s₄) E s₃) E s := by
  refine wpAny_with_toks (n := s.toks) (Nat.le_refl _) (n_list D (by exact Nat.zero_le _) fun a s₁ D₁ htk₁ => ?_)
  refine newCompEnv ?_
  generalize hC : s₁.heap.objs.size = C
  have ok := cellsFrom_ok scope.names (s₁.heap.push { cls := .type "dict", data := .dict #[] }) (C + 1) [] ⟨fun _ _ hm => (nomatch hm), List.Pairwise.nil⟩ (by rw [Heap.size_push, hC]; exact Nat.le_refl _)
  rw [Heap.size_push, hC] at ok
  have keep : Sub s₁.heap (pushCells (s₁.heap.push { cls := .type "dict", data := .dict #[] }) scope.names) := fun b o e => pushCells_keeps _ _ _ _ (Heap.get?_push_of_some _ e)
  have hCn : (pushCells (s₁.heap.push { cls := .type "dict", data := .dict #[] }) scope.names).Ns C (fun _ => none) := by
    refine ⟨_, #[], _, pushCells_keeps _ _ _ _ (by rw [← hC]; exact Heap.get?_push_size _ rfl), rfl, strKeys_nil, fun _ => rfl⟩
  have D₂ : Led ι g { s₁ with heap := pushCells (s₁.heap.push { cls := .type "dict", data := .dict #[] }) scope.names } ((C, .ns fun _ => none) :: cellObs (fun _ => none) (cellsFrom (C + 1) scope.names []) ++ ((I, ob 0) :: (a, .list []) :: l)) := by
    refine Led.news D₁ ⟨rfl, rfl, rfl⟩ keep ?_ ?_ ?_ (Nat.le_refl _)
    · intro p hp
      rcases List.mem_cons.mp hp with rfl | hp
      · rw [← hC]; exact size_none _
      · obtain ⟨q, hq, rfl⟩ := List.mem_map.mp hp
        have := (ok.empty q.1 q.2 hq).2
        exact above_none (by rw [hC]; exact Nat.le_of_succ_le this)
    · intro p hp
      rcases List.mem_cons.mp hp with rfl | hp
      · exact hCn
      · obtain ⟨q, hq, rfl⟩ := List.mem_map.mp hp
        exact (ok.empty q.1 q.2 hq).1
    · refine List.nodup_cons.mpr ⟨fun q => ?_, ?_⟩
      · obtain ⟨p, hp, e'⟩ := List.mem_map.mp q
        obtain ⟨q', hq', rfl⟩ := List.mem_map.mp hp
        have := (ok.empty q'.1 q'.2 hq').2
        exact absurd e' (Nat.ne_of_gt this)
      · unfold cellObs
        rw [List.map_map]
        exact List.pairwise_map.mpr ok.apart
  have VC : EnvIs { newEnv scope C env.globals (cellsFrom (C + 1) scope.names cl) env.qual none .none (some env) builtinsNs with scope := relabel scope env } C (relNames scope.names names) (cellsFrom (C + 1) scope.names [] ++ cl) :=
    ⟨hkind, rfl, relabel_names V scope, cellsFrom_append _ _ _, V.globals, V.builtins⟩
  generalize ({ newEnv scope C env.globals (cellsFrom (C + 1) scope.names cl) env.qual none .none (some env) builtinsNs with scope := relabel scope env } : Env) = cenv at VC ⊢
  have loop : ∀ s₃, s.toks ≤ s₃.toks → Led ι g s₃ ((C, .ns fun _ => none) :: cellObs (fun _ => none) (cellsFrom (C + 1) scope.names []) ++ ((I, ob 0) :: (a, .list []) :: l)) →
      codeAny (model prog w) A (.compLoop (.ListComp elt [⟨target, iter, ifs, 0⟩] scope pos) 0 (.ref I) (.ref a) cenv) (RR (.ref a) C) s₃ := by
    intro s₃ htk₃ D₃
    refine codeAny_compLoop_tests (fun k s' => ∃ i g' ys mc cm, i ≤ n ∧ k = n + 1 - i ∧ Sub g g' ∧ J i g' ys s'.toks ∧ Led ι g' s' ((I, ob i) :: (a, .list ys) :: ((C, .ns mc) :: (cellObs cm (cellsFrom (C + 1) scope.names []) ++ l)))) ?_ (n + 1)
      ⟨0, g, [], fun _ => none, fun _ => none, Nat.zero_le _, rfl, Sub.refl g, hmono _ _ _ _ _ htk₃ h0, D₃.perm ?_⟩ ht
    · rintro k s' ⟨i, g', ys, mc, cm, hi, rfl, hk, hJ, D'⟩
      by_cases hlt : i < n
      · refine wpAny_with_toks (n := s'.toks) (Nat.le_refl _) (IO.item i I ι s' g' _ _ _ hk hlt D' fun v s₄ hP D₄ htk₄ => ?_)
        have D₅ : Led ι g' s₄ ((C, .ns mc) :: (cellObs cm (cellsFrom (C + 1) scope.names []) ++ (l ++ [(I, ob (i + 1)), (a, .list ys)]))) := by
          refine D₄.perm ?_
          rw [← List.append_assoc, ← List.cons_append]
          exact List.perm_append_comm
        refine wpAny_mono (turn cenv C i v g' ys mc cm _ s₄ VC hlt hP hk (hmono _ _ _ _ _ htk₄ hJ) D₅) (fun _ s₅ h₅ => wpAny_mono h₅ (fun okb s₆ h₆ => ?_) fun _ _ e => e.elim) fun _ _ e => e.elim
        have back : ∀ {g'' mc' cm' s₇ ys'}, Led ι g'' s₇ ((C, .ns mc') :: (cellObs cm' (cellsFrom (C + 1) scope.names []) ++ (l ++ [(I, ob (i + 1)), (a, .list ys')]))) →
            Led ι g'' s₇ ((I, ob (i + 1)) :: (a, .list ys') :: ((C, .ns mc') :: (cellObs cm' (cellsFrom (C + 1) scope.names []) ++ l))) := by
          intro g'' mc' cm' s₇ ys' D₇
          refine D₇.perm ?_
          rw [← List.append_assoc, ← List.cons_append]
          exact (List.perm_append_comm (l₁ := [(I, ob (i + 1)), (a, .list ys')]) (l₂ := (C, .ns mc') :: (cellObs cm' (cellsFrom (C + 1) scope.names []) ++ l)))
        cases okb with
        | true =>
          simp only [if_true] at h₆ ⊢
          refine wpAny_mono h₆ (fun y s₇ h₇ => ?_) fun _ _ e => e.elim
          obtain ⟨g'', mc', cm', hk', hJ', D₇⟩ := h₇
          have D₈ := back D₇
          have hl2 := hlen i g' ys _ hi hJ
          refine wpAny_list_append_plain (items := ys.toArray) (D₈.here (a, .list ys) (.tail _ (.head _))) (fun h' hl hs => ?_) (by rw [List.size_toArray]; omega)
          refine ⟨n + 1 - (i + 1), by omega, i + 1, g'', ys ++ [y], mc', cm', hlt, rfl, hk.trans hk', hJ', ?_⟩
          exact Led.turn (n := s₇.toks) (pre := [(I, ob (i + 1))]) (ob := .list ys) (ob' := .list (ys ++ [y])) D₈ (fun b o hb e => (hs.2 b hb).trans e) (by
            show Heap.PlainList _ _ _
            have : (ys ++ [y]).toArray = ys.toArray.push y := by simp
            rw [this]; exact hl)
        | false =>
          simp only [Bool.false_eq_true, if_false] at h₆ ⊢
          obtain ⟨g'', mc', cm', hk', hJ', D₇⟩ := h₆
          exact ⟨n + 1 - (i + 1), by omega, i + 1, g'', ys, mc', cm', hlt, rfl, hk.trans hk', hJ', back D₇⟩
      · have : i = n := by omega
        subst this
        refine wpAny_with_toks (n := s'.toks) (Nat.le_refl _) (IO.done I ι s' g' _ _ _ hk D' fun s₄ D₄ htk₄ => ?_)
        refine done a C g' ys mc cm s₄ hk (hmono _ _ _ _ _ htk₄ hJ) (D₄.perm ?_)
        rw [← List.cons_append]
        exact List.perm_middle
    · have := List.perm_append_comm (l₁ := (C, Ob.ns fun _ => none) :: cellObs (fun _ => none) (cellsFrom (C + 1) scope.names [])) (l₂ := [(I, ob 0), (a, .list [])])
      have p2 := this.append_right l
      rw [List.append_assoc, List.append_assoc] at p2
      exact p2.symm
  have DI : Led ι g { s₁ with heap := pushCells (s₁.heap.push { cls := .type "dict", data := .dict #[] }) scope.names } ((I, ob 0) :: ((C, .ns fun _ => none) :: cellObs (fun _ => none) (cellsFrom (C + 1) scope.names []) ++ ((a, .list []) :: l))) := D₂.perm List.perm_middle.symm
  exact codeAny_compStart_list (loop _ htk₁ D₂) (IO.self 0 I ι _ g _ _ _ DI (loop _ htk₁ D₂))
end
end Mine
end

section
open PySem PySem.W PySem.Calls PyProof.Rows
set_option Elab.async false
set_option maxRecDepth 100000
set_option linter.all false
namespace Mine
noncomputable def clOf (cells : List (Str × Addr)) : List (Str × NameKind) → List (Str × Addr) → Option (List (Str × Addr))
  | [], acc => some acc
  | (n, k) :: r, acc => if (k == .free) = true then (match cells.lookup n with | some a => clOf cells r ((n, a) :: acc) | none => none) else clOf cells r acc

section
variable {prog : Program} {w : World} {A : Around} {E : Value → Shared → Prop} {s ι : Shared} {g : Heap} {l : List (Addr × Ob)} {env : Env} {L : Addr} {names : List (Str × NameKind)} {cells : List (Str × Addr)}

theorem closure_of (V : EnvIs env L names cells) {scope : Scope} {cl : List (Str × Addr)} (h : clOf cells scope.names [] = some cl) : closureFor scope env = pure cl := by
  unfold closureFor
  have key : ∀ (ns : List (Str × NameKind)) (acc : List (Str × Addr)) (r : List (Str × Addr)), clOf cells ns acc = some r →
      (forIn ns acc fun (x : Str × NameKind) (cs : List (Str × Addr)) => match x with | (name, kind) => if (kind == NameKind.free) = true then do let a ← cellOf env name; pure (ForInStep.yield ((name, a) :: cs)) else pure (ForInStep.yield cs) : Sem (List (Str × Addr))) = pure r := by
    intro ns
    induction ns with
    | nil => intro acc r h; rw [List.forIn_nil]; simp only [clOf] at h; cases h; rfl
    | cons p rest ih =>
      intro acc r h
      obtain ⟨n, k⟩ := p
      rw [List.forIn_cons]
      unfold clOf at h
      dsimp only
      split at h
      · rename_i hk
        rw [if_pos hk]
        cases hl : cells.lookup n with
        | none => rw [hl] at h; cases h
        | some a =>
          rw [hl] at h
          have hc : cellOf env n = pure a := by unfold cellOf; rw [V.cells, hl]
          rw [hc, pure_bind, pure_bind]
          exact ih _ _ h
      · rename_i hk
        rw [if_neg hk, pure_bind]
        exact ih _ _ h
  have := key scope.names [] cl h
  show (forIn scope.names [] _ >>= fun cs => pure cs) = pure cl
  first
    | (rw [bind_pure]; exact this)
    | (rw [this]; rfl)

/-- where the block of a comprehension starts -/
noncomputable def CompAt (prog : Program) (w : World) (A : Around) (E : Value → Shared → Prop) (env : Env) (elt target iter : PySem.Expr) (ifs : List PySem.Expr) (scope : Scope) (cl : List (Str × Addr)) (pos : Pos) (RR : Value → Addr → Result → Shared → Prop) (it : Value) (s : Shared) : Prop :=
  wpAny (model prog w) A (newList []) (fun acc s₃ => wpAny (model prog w) A (newFunctionEnv scope env.globals cl [] env.qual none .none (some env)) (fun cenv s₄ =>
    codeAny (model prog w) A (.compStart (.ListComp elt [⟨target, iter, ifs, 0⟩] scope pos) 0 it acc { cenv with scope := relabel scope env }) (RR acc cenv.locals) s₄) E s₃) E s

theorem e_comp {elt target iter : PySem.Expr} {ifs : List PySem.Expr} {scope : Scope} {cl : List (Str × Addr)} {pos : Pos} {Q : Value → Shared → Prop} (V : EnvIs env L names cells) (hcl : clOf cells scope.names [] = some cl) (hkind : scope.kind = .function)
    (hnames : ∀ x ∈ scope.names, x.2 = .local → scope.names.lookup x.1 = some .local) (hs : ∀ x, foldedSetIterable iter env x = pure x)
    (h : wpAny (model prog w) A (eval iter env) (fun xv s₁ => wpAny (model prog w) A (pyIter xv) (fun it s₂ => CompAt prog w A E env elt target iter ifs scope cl pos (compPost (model prog w) A E none Q) it s₂) E s₁) E s) :
    wpAny (model prog w) A (eval (.ListComp elt [⟨target, iter, ifs, 0⟩] scope pos) env) Q E s := by
  rw [eval_ListComp]
  exact wpAny_comprehension_free (use := none) rfl hs (closure_of V hcl) hkind hnames h

theorem Led.loseC {C : Addr} {mc : Str → Option Value} {cs : List (Addr × Ob)} (D : Led ι g s ((C, .ns mc) :: (cs ++ l))) : s.heap.Ns C mc ∧ ∀ h', Heap.SameBut C s.heap h' → Led ι g { s with heap := h' } l :=
  ⟨D.here _ (.head _), fun h' hs => (Led.lose (n := s.toks) D (fun b o hb e => (hs.2 b hb).trans e)).sublist (List.sublist_append_right _ _)⟩

theorem comp_run {ob : Nat → Ob} {n : Nat} {P : Nat → Value → Prop} {elt target iter : PySem.Expr} {ifs : List PySem.Expr} {scope : Scope} {cl : List (Str × Addr)} {pos : Pos} {I : Addr} {Q : Value → Shared → Prop}
    (V : EnvIs env L names cells) (IO : IterOk prog w A g ob n P) (J : Nat → Heap → List Value → Nat → Prop) (hmono : ∀ i g ys n n', n ≤ n' → J i g ys n → J i g ys n') (D : Led ι g s ((I, ob 0) :: l)) (h0 : J 0 g [] s.toks) (hkind : scope.kind = .function)
    (hnd : ((cellsFrom 0 scope.names []).map (·.1)).Nodup) (hsz : n ≤ sizeLine) (hlen : ∀ i g' ys n', i ≤ n → J i g' ys n' → ys.length ≤ i) (ht : ∀ v, letOwnedTupleGo target (.ref I) v = pure ())
    (done : ∀ a g' ys s', Sub g g' → J n g' ys s'.toks → Led ι g' s' ((a, .list ys) :: l) → Q (.ref a) s')
    (turn : ∀ cenv C i v g' ys mc cm tl s', EnvIs cenv C (relNames scope.names names) (cellsFrom (C + 1) scope.names [] ++ cl) → i < n → P i v → Sub g g' → J i g' ys s'.toks →
      Led ι g' s' ((C, .ns mc) :: (cellObs cm (cellsFrom (C + 1) scope.names []) ++ (l ++ tl))) →
      wpAny (model prog w) A (assign target cenv v) (fun _ s₂ =>
        wpAny (model prog w) A (forIn ifs true fun c r => if r = true then do let ok ← isTrue c cenv (eval c cenv); pure (ForInStep.yield ok) else pure (ForInStep.yield r)) (fun ok s₃ =>
          if ok = true then wpAny (model prog w) A (eval elt cenv) (fun y s₄ => ∃ g'' mc' cm', Sub g' g'' ∧ J (i + 1) g'' (ys ++ [y]) s₄.toks ∧ Led ι g'' s₄ ((C, .ns mc') :: (cellObs cm' (cellsFrom (C + 1) scope.names []) ++ (l ++ tl)))) (fun _ _ => False) s₃
          else ∃ g'' mc' cm', Sub g' g'' ∧ J (i + 1) g'' ys s₃.toks ∧ Led ι g'' s₃ ((C, .ns mc') :: (cellObs cm' (cellsFrom (C + 1) scope.names []) ++ (l ++ tl)))) (fun _ _ => False) s₂) (fun _ _ => False) s') :
    CompAt prog w A E env elt target iter ifs scope cl pos (compPost (model prog w) A E none Q) (.ref I) s := by
  refine comp_core (RR := compPost (model prog w) A E none Q) V IO J hmono D h0 hkind hnd hsz hlen ht turn ?_
  intro a C g' ys mc cm s' hk hJ D'
  obtain ⟨h1, h2⟩ := D'.loseC
  exact ⟨mc, h1, fun h' hs => done a g' ys _ hk (hJ) (h2 h' hs)⟩

theorem x_comp {elt target iter : PySem.Expr} {ifs : List PySem.Expr} {scope : Scope} {cl : List (Str × Addr)} {pos spos py : Pos} {y : Str} {rest : List Stmt} {Q : Flow → Shared → Prop} (V : EnvIs env L names cells) (hcl : clOf cells scope.names [] = some cl) (hkind : scope.kind = .function)
    (hnames : ∀ x ∈ scope.names, x.2 = .local → scope.names.lookup x.1 = some .local) (hs : ∀ x, foldedSetIterable iter env x = pure x)
    (hy : names.lookup y = some .local) (hline : (py.line == pos.line) = true) (hno : (scope.names.any fun (n, k) => n == y && (k == .local || k == .cell)) = false)
    (h : wpAny (model prog w) A (eval iter env) (fun xv s₁ => wpAny (model prog w) A (pyIter xv) (fun it s₂ => CompAt prog w A E env elt target iter ifs scope cl pos (compPost (model prog w) A E (some (assign (.Name y py) env)) (fun _ s' => wpAny (model prog w) A (execs rest env) Q E s')) it s₂) E s₁) E s) :
    wpAny (model prog w) A (execs (.Assign [.Name y py] (.ListComp elt [⟨target, iter, ifs, 0⟩] scope pos) spos :: rest) env) Q E s := by
  have hsw : swapsWith (.ListComp elt [⟨target, iter, ifs, 0⟩] scope pos) (some (.Name y py)) spos.line env = pure true := by
    show (pure (env.blockKind == .function && env.kindOf y == some .local && py.line == pos.line && !(scope.names.any fun (n, k) => n == y && (k == .local || k == .cell))) : Sem Bool) = pure true
    rw [hline, hno, V.kindOf, hy]
    unfold Env.blockKind
    rw [V.kind]; rfl
  refine wpAny_execs_cons ?_
  rw [exec_Assign_Name_used _ _ _ _ hsw]
  refine wpAny_bind (wpAny_standAt (wpAny_bind ?_))
  show wpAny _ A (do let _ ← comprehension (.ListComp elt [⟨target, iter, ifs, 0⟩] scope pos) scope env _ (newList []) false (eval iter env) (some (assign (.Name y py) env))) _ _ s
  refine wpAny_bind (wpAny_mono (wpAny_comprehension_free (use := some (assign (.Name y py) env)) (Q := fun _ s' => wpAny (model prog w) A (execs rest env) Q E s') rfl hs (closure_of V hcl) hkind hnames h) (fun _ s' hq => wpAny_pure (wpAny_pure hq)) fun _ _ e => e)

theorem comp_use {ob : Nat → Ob} {n : Nat} {P : Nat → Value → Prop} {elt target iter : PySem.Expr} {ifs : List PySem.Expr} {scope : Scope} {cl : List (Str × Addr)} {pos py : Pos} {y : Str} {I : Addr} {m : Str → Option Value} {K : Shared → Prop}
    (V : EnvIs env L names cells) (IO : IterOk prog w A g ob n P) (J : Nat → Heap → List Value → Nat → Prop) (hmono : ∀ i g ys n n', n ≤ n' → J i g ys n → J i g ys n') (D : Led ι g s ((I, ob 0) :: ((L, .ns m) :: l))) (h0 : J 0 g [] s.toks) (hkind : scope.kind = .function)
    (hnd : ((cellsFrom 0 scope.names []).map (·.1)).Nodup) (hsz : n ≤ sizeLine) (hlen : ∀ i g' ys n', i ≤ n → J i g' ys n' → ys.length ≤ i) (ht : ∀ v, letOwnedTupleGo target (.ref I) v = pure ())
    (hy : names.lookup y = some .local)
    (done : ∀ a g' ys s', Sub g g' → J n g' ys s'.toks → Led ι g' s' ((L, .ns (upd m y (.ref a))) :: (a, .list ys) :: l) → K s')
    (turn : ∀ cenv C i v g' ys mc cm tl s', EnvIs cenv C (relNames scope.names names) (cellsFrom (C + 1) scope.names [] ++ cl) → i < n → P i v → Sub g g' → J i g' ys s'.toks →
      Led ι g' s' ((C, .ns mc) :: (cellObs cm (cellsFrom (C + 1) scope.names []) ++ (((L, .ns m) :: l) ++ tl))) →
      wpAny (model prog w) A (assign target cenv v) (fun _ s₂ =>
        wpAny (model prog w) A (forIn ifs true fun c r => if r = true then do let ok ← isTrue c cenv (eval c cenv); pure (ForInStep.yield ok) else pure (ForInStep.yield r)) (fun ok s₃ =>
          if ok = true then wpAny (model prog w) A (eval elt cenv) (fun y s₄ => ∃ g'' mc' cm', Sub g' g'' ∧ J (i + 1) g'' (ys ++ [y]) s₄.toks ∧ Led ι g'' s₄ ((C, .ns mc') :: (cellObs cm' (cellsFrom (C + 1) scope.names []) ++ (((L, .ns m) :: l) ++ tl)))) (fun _ _ => False) s₃
          else ∃ g'' mc' cm', Sub g' g'' ∧ J (i + 1) g'' ys s₃.toks ∧ Led ι g'' s₃ ((C, .ns mc') :: (cellObs cm' (cellsFrom (C + 1) scope.names []) ++ (((L, .ns m) :: l) ++ tl)))) (fun _ _ => False) s₂) (fun _ _ => False) s') :
    CompAt prog w A E env elt target iter ifs scope cl pos (compPost (model prog w) A E (some (assign (.Name y py) env)) (fun _ s' => K s')) (.ref I) s := by
  refine comp_core (RR := compPost (model prog w) A E (some (assign (.Name y py) env)) (fun _ s' => K s')) V IO J hmono D h0 hkind hnd hsz hlen ht turn ?_
  intro a C g' ys mc cm s' hk hJ D'
  show wpAny _ A (assign (.Name y py) env (.ref a)) _ _ _
  have D₁ : Led ι g' s' ((L, .ns m) :: ((C, .ns mc) :: (cellObs cm (cellsFrom (C + 1) scope.names []) ++ (a, .list ys) :: l))) := by
    refine D'.perm ?_
    have : ((C, Ob.ns mc) :: (cellObs cm (cellsFrom (C + 1) scope.names []) ++ (a, .list ys) :: (L, .ns m) :: l)) = ((C, .ns mc) :: (cellObs cm (cellsFrom (C + 1) scope.names []) ++ [(a, .list ys)])) ++ (L, .ns m) :: l := by simp
    rw [this]
    have p := List.perm_middle (a := (L, Ob.ns m)) (l₁ := (C, Ob.ns mc) :: (cellObs cm (cellsFrom (C + 1) scope.names []) ++ [(a, .list ys)])) (l₂ := l)
    refine (List.Perm.trans ?_ p.symm)
    simp
  refine wpAny_with_toks (n := s'.toks) (Nat.le_refl _) (a_name (st_l V D₁ hy fun s₂ D₂ htk₂ => ?_))
  have D₃ : Led ι g' s₂ ((C, .ns mc) :: (cellObs cm (cellsFrom (C + 1) scope.names []) ++ ((L, .ns (upd m y (.ref a))) :: (a, .list ys) :: l))) := by
    refine D₂.perm ?_
    have p := List.perm_middle (a := (L, Ob.ns (upd m y (.ref a)))) (l₁ := (C, Ob.ns mc) :: cellObs cm (cellsFrom (C + 1) scope.names [])) (l₂ := (a, .list ys) :: l)
    exact p
  obtain ⟨h1, h2⟩ := D₃.loseC
  exact ⟨mc, h1, fun h' hs => done a g' ys _ hk (hmono _ _ _ _ _ htk₂ hJ) (h2 h' hs)⟩

-- the tests of a clause
theorem ts_nil {cenv : Env} {Q : Bool → Shared → Prop} (h : Q true s) :
    wpAny (model prog w) A (forIn ([] : List PySem.Expr) true fun c r => if r = true then do let ok ← isTrue c cenv (eval c cenv); pure (ForInStep.yield ok) else pure (ForInStep.yield r)) Q E s := by
  rw [List.forIn_nil]; exact wpAny_pure h
theorem ts_one {cenv : Env} {c : PySem.Expr} {Q : Bool → Shared → Prop} (h : wpAny (model prog w) A (isTrue c cenv (eval c cenv)) Q E s) :
    wpAny (model prog w) A (forIn [c] true fun c r => if r = true then do let ok ← isTrue c cenv (eval c cenv); pure (ForInStep.yield ok) else pure (ForInStep.yield r)) Q E s := by
  rw [List.forIn_cons]
  simp only [if_true]
  refine wpAny_bind (wpAny_bind (wpAny_mono h (fun b s' hb => wpAny_pure ?_) fun _ _ e => e))
  dsimp only
  rw [List.forIn_nil]; exact wpAny_pure hb
end
end Mine
end

section
open PySem PySem.W PySem.Calls PyProof.Rows
set_option Elab.async false
set_option maxRecDepth 100000
set_option linter.all false
namespace Mine

noncomputable def allOf (h : Heap) (L : Addr) : List (Addr × Obj) := (List.range h.objs.size).filterMap fun b => if b = L then none else (h.get? b).map fun o => (b, o)
theorem mem_allOf {h : Heap} {L b : Addr} {o : Obj} (hb : b ≠ L) (e : h.get? b = some o) : (b, o) ∈ allOf h L := by
  refine List.mem_filterMap.mpr ⟨b, List.mem_range.mpr (Heap.lt_size e), ?_⟩
  rw [if_neg hb, e]; rfl
theorem of_allOf {h : Heap} {L : Addr} {p : Addr × Obj} (hp : p ∈ allOf h L) : p.1 ≠ L ∧ h.get? p.1 = some p.2 := by
  obtain ⟨b, _, e⟩ := List.mem_filterMap.mp hp
  split at e
  · cases e
  · rename_i hb
    cases q : h.get? b with
    | none => rw [q] at e; cases e
    | some o => rw [q] at e; cases e; exact ⟨hb, q⟩

noncomputable def noHeap : Heap := {}
theorem noHeap_get (b : Addr) : noHeap.get? b = none := above_none (h := noHeap) (Nat.zero_le _)

section
variable {prog : Program} {w : World} {A : Around} {E : Value → Shared → Prop} {s ι : Shared} {g : Heap} {l : List (Addr × Ob)} {env : Env} {L : Addr} {names : List (Str × NameKind)} {cells : List (Str × Addr)} {m : Str → Option Value}

theorem Led.fr (D : Led ι g s ((L, .ns m) :: l)) : Fr noHeap L s.heap m := ⟨D.here _ (.head _), (fun b o e => by rw [noHeap_get] at e; cases e), Nat.zero_le _⟩
theorem Led.nw (D : Led ι g s ((L, .ns m) :: l)) : News noHeap L s.heap (allOf s.heap L) := fun p hp => ⟨(of_allOf hp).2, (of_allOf hp).1, noHeap_get _⟩
/-- back from the library's frame and ledger -/
theorem Led.back (D : Led ι g s ((L, .ns m) :: l)) {h' : Heap} {n : Nat} {a : Addr} {o : Obj} {ob : Ob} (F : Fr noHeap L h' m) (N : News noHeap L h' ((a, o) :: allOf s.heap L)) (ha : s.heap.get? a = none) (hob : h'.get? a = some o → ob.At h' a) (hn : s.toks ≤ n) :
    Led ι g { s with heap := h', toks := n } ((L, .ns m) :: (a, ob) :: l) := by
  have k : ∀ b o, b ≠ L → s.heap.get? b = some o → h'.get? b = some o := fun b o hb e => (N _ (.tail _ (mem_allOf hb e))).1
  have aL : a ≠ L := (N _ (.head _)).2.1
  have hL := D.head_ne
  refine ⟨D.rest, fun b o e => k b o (fun q => by rw [q, hL.1] at e; cases e) (D.sub b o e), fun p hp => ?_, fun p hp => ?_, ?_, ⟨D.pos.1, Nat.le_trans D.pos.2 hn⟩⟩
  · rcases List.mem_cons.mp hp with rfl | hp
    · exact F.ns
    · rcases List.mem_cons.mp hp with rfl | hp
      · exact hob (N _ (.head _)).1
      · exact (D.here p (.tail _ hp)).mono fun o e => k _ o (hL.2 p hp) e
  · rcases List.mem_cons.mp hp with rfl | hp
    · exact hL.1
    · rcases List.mem_cons.mp hp with rfl | hp
      · cases e : g.get? a with
        | none => rfl
        | some o => have := D.sub _ _ e; rw [ha] at this; cases this
      · exact D.off p (.tail _ hp)
  · have hnd := D.apart
    simp only [List.map_cons, List.nodup_cons, List.mem_cons] at hnd ⊢
    refine ⟨fun q => ?_, fun q => ?_, hnd.2⟩
    · rcases q with q | q
      · exact aL q.symm
      · exact hnd.1 q
    · obtain ⟨p, hp, e⟩ := List.mem_map.mp q
      obtain ⟨o', eo⟩ := (D.here p (.tail _ hp)).some
      rw [e, ha] at eo; cases eo

theorem Led.lst (D : Led ι g s l) {a : Addr} {xs : List Value} (hm : (a, Ob.list xs) ∈ l) : s.heap.IsList a xs.toArray := Heap.PlainList.isList (D.here _ hm)
theorem Led.lstG (D : Led ι g s l) {a : Addr} {xs : List Value} (h : g.IsList a xs.toArray) : s.heap.IsList a xs.toArray := h.at fun o e => D.sub _ _ e
theorem Led.tp (D : Led ι g s l) {a : Addr} {xs : List Value} (hm : (a, Ob.tup xs) ∈ l) : IsTup s.heap a xs.toArray := PTup.isTup (D.here _ hm)
theorem Led.tpG (D : Led ι g s l) {a : Addr} {xs : List Value} (h : IsTup g a xs.toArray) : IsTup s.heap a xs.toArray := h.keeps D.sub

variable {Q : Value → Shared → Prop}
-- len
theorem b_len {a : Addr} {xs : List Value} (D : Led ι g s l) (hl : s.heap.IsList a xs.toArray) (hf : (xs.length : Int) < 2 ^ 63) (h : ∀ t s', Led ι g s' l → Q (.int xs.length t) s') : wpAny (model prog w) A (call (.builtin "len") [.ref a]) Q E s :=
  call_len_list hl (by rw [List.size_toArray]; exact hf) (by rw [List.size_toArray]; exact h _ _ (D.tok (hn := by omega)))
-- items
theorem e_sub {value slice : PySem.Expr} {p : Pos} (h : wpAny (model prog w) A (eval value env) (fun o s₁ => wpAny (model prog w) A (eval slice env) (fun i s₂ => wpAny (model prog w) A (subscriptTail value slice o i) Q E s₂) E s₁) E s) :
    wpAny (model prog w) A (eval (.Subscript value slice p) env) Q E s := Subscript_ h
theorem s_list {value slice : PySem.Expr} {a : Addr} {xs : List Value} {k : Int} {u : Tok} {x : Value} (hl : s.heap.IsList a xs.toArray) (h0 : 0 ≤ k) (hf : k < 2 ^ 63) (hx : xs[k.toNat]? = some x)
    (hs : subscripted slice false (.ref a) (.int k u) = operate [.ref a, .int k u] (getItem (.ref a) (.int k u))) (h : Q x s) : wpAny (model prog w) A (subscriptTail value slice (.ref a) (.int k u)) Q E s :=
  tail_any hl.typeIs slot_list_getitem.lookup (wpAny_getItem_list hl h0 hf (by simpa using hx) h) hs
theorem s_tup {value slice : PySem.Expr} {a : Addr} {xs : List Value} {k : Int} {u : Tok} {j : Nat} {x : Value} (hl : IsTup s.heap a xs.toArray) (h0 : -(2 ^ 63) ≤ k) (hf : k < 2 ^ 63) (hj : seqIndex? k xs.length = some j) (hx : xs[j]? = some x)
    (hs : subscripted slice false (.ref a) (.int k u) = operate [.ref a, .int k u] (getItem (.ref a) (.int k u))) (h : Q x s) : wpAny (model prog w) A (subscriptTail value slice (.ref a) (.int k u)) Q E s :=
  item_tupleT hl h0 hf hj hx h hs
-- sorted
theorem b_sorted {a : Addr} {xs : List Value} {ns : List Int} (D : Led ι g s ((L, .ns m) :: l)) (hl : s.heap.IsList a xs.toArray) (hi : IntsAre xs ns) (h64 : xs.length < 64)
    (h : ∀ r ys ms s', IntsAre ys ms → ms.Perm ns → ms.Pairwise (· ≤ ·) → Led ι g s' ((L, .ns m) :: (r, .list ys) :: l) → Q (.ref r) s') : wpAny (model prog w) A (call (.builtin "sorted") [.ref a]) Q E s := by
  refine sorted_N D.fr D.nw hl hi h64 fun h' vs' ns' e F N a1 a2 a3 => ?_
  refine h _ vs' ns' _ a1 a2 a3 (Led.back (n := s.toks) D F N (above_none (Nat.le_succ _)) (fun q => ⟨e, q⟩) (Nat.le_refl _))
-- +
theorem l_add {a b : Addr} {xs ys : List Value} (D : Led ι g s ((L, .ns m) :: l)) (ha : s.heap.IsList a xs.toArray) (hb : s.heap.IsList b ys.toArray) (hsz : xs.length + ys.length ≤ sizeLine)
    (h : ∀ r s', Led ι g s' ((L, .ns m) :: (r, .list (xs ++ ys)) :: l) → Q (.ref r) s') : wpAny (model prog w) A (binaryOp .Add (.ref a) (.ref b)) Q E s :=
  add_lists D.fr D.nw ha hb (fun h' F N => h _ _ (Led.back (n := s.toks) D F N (size_none _) (fun q => ⟨_, q⟩) (Nat.le_refl _))) hsz
theorem t_add {a b : Addr} {xs ys : List Value} (D : Led ι g s ((L, .ns m) :: l)) (ha : IsTup s.heap a xs.toArray) (hb : IsTup s.heap b ys.toArray) (hx : xs ≠ []) (hy : ys ≠ []) (hsz : xs.length + ys.length ≤ sizeLine)
    (h : ∀ r s', Led ι g s' ((L, .ns m) :: (r, .tup (xs ++ ys)) :: l) → Q (.ref r) s') : wpAny (model prog w) A (binaryOp .Add (.ref a) (.ref b)) Q E s :=
  add_tuples D.fr D.nw ha hb (fun e => absurd e hx) (fun _ e => absurd e hy) (fun _ _ h' F N => h _ _ (Led.back (n := s.toks) D F N (size_none _) (fun q => ⟨_, q⟩) (Nat.le_refl _))) hsz
-- *
theorem l_mul {a : Addr} {xs ys : List Value} {k : Int} {u : Tok} {i : Nat} (D : Led ι g s ((L, .ns m) :: l)) (hm : (a, Ob.list xs) ∈ (L, Ob.ns m) :: l) (hlo : -(2 ^ 63 : Int) ≤ k) (hhi : k < 2 ^ 63) (hsz : xs.toArray.size * k.toNat ≤ 2 ^ 24)
    (hy : List.foldl (fun x1 x2 => x1 ++ x2) #[] (List.replicate (if xs.toArray.isEmpty = true then 0 else k.toNat) xs.toArray) = ys.toArray)
    (h : ∀ r s', Led ι g s' ((L, .ns m) :: (r, .list ys) :: l) → Q (.ref r) s') : wpAny (model prog w) A (binaryOp .Mult (.ref a) (.int k u)) Q E s := by
  obtain ⟨n, e⟩ := D.here _ hm
  refine mul_list D.fr D.nw e hlo hhi hsz fun h' F N => ?_
  rw [hy] at N
  exact h _ _ (Led.back (n := s.toks) D F N (size_none _) (fun q => ⟨_, q⟩) (Nat.le_refl _))

-- slices
theorem l_slice {value slice : PySem.Expr} {a : Addr} {xs ys : List Value} {vl vu : Value} {lo hi : Option Int} {sl : Addr} (D : Led ι g s ((L, .ns m) :: l)) (hl : s.heap.IsList a xs.toArray) (pl : IsPart vl lo) (pu : IsPart vu hi) (hsl : s.heap.IsSliceOf sl vl vu .none)
    (hy : kms_pick xs lo hi = ys) (hsz : xs.length ≤ sizeLine)
    (hs : subscripted slice false (.ref a) (.ref sl) = operate [.ref sl, .ref a] (getItem (.ref a) (.ref sl)))
    (h : ∀ r s', Led ι g s' ((L, .ns m) :: (r, .list ys) :: l) → Q (.ref r) s') : wpAny (model prog w) A (subscriptTail value slice (.ref a) (.ref sl)) Q E s := by
  refine tail_any hl.typeIs slot_list_getitem.lookup (wpAny_getItem_list_slice hl hsl pl pu .none (by simp) ?_ (by rw [List.size_toArray]; exact hsz)) hs
  refine h _ _ (Led.perm (Led.new (a := s.heap.objs.size) (ob := .list ys) (n := s.toks) D (fun b o e => Heap.get?_push_of_some _ e) (size_none _) ?_) (List.Perm.swap _ _ _))
  rw [kms_pick_eq, ← hy]
  exact ⟨_, Heap.get?_push_size _ rfl⟩
end
end Mine
end

section
open PySem PySem.Float64
set_option Elab.async false
namespace Mine

/-- a float that is finite, with its value in units of 2^-1074 -/
noncomputable def Rep (x : UInt64) (z : Int) : Prop := (∃ a m e, decode x = .fin a m e) ∧ val x = z

noncomputable def Fits (W : Nat) : Prop := ∃ t, t < infMag ∧ V t = W

theorem fits_zero : Fits 0 := ⟨0, by decide, by decide⟩

theorem fits_pow {n k : Nat} (hn : n ≤ 2 ^ 53) (hk : 53 ≤ k) (hk2 : k ≤ 1990) : Fits (n * 2 ^ k) := by
  by_cases h0 : n = 0
  · subst h0; rw [Nat.zero_mul]; exact fits_zero
  by_cases hb : n = 2 ^ 53
  · subst hb
    refine ⟨k * 2 ^ 52 + 2 ^ 53, ?_, V_at (Nat.le_refl _) (.inl (by decide))⟩
    have : infMag = 2047 * 2 ^ 52 := rfl
    omega
  · have hlog := Nat.log2_self_le h0
    have hlog2 := Nat.lt_log2_self (n := n)
    have hl : n.log2 ≤ 52 := by
      rcases Nat.lt_or_ge n.log2 53 with h | h
      · omega
      · have := Nat.pow_le_pow_right (n := 2) (by decide) h
        omega
    obtain ⟨j, hj⟩ : ∃ j, n.log2 + j = 52 := ⟨52 - n.log2, by omega⟩
    have e1 : 2 ^ 52 ≤ n * 2 ^ j := by
      have := Nat.mul_le_mul_right (2 ^ j) hlog
      rw [← Nat.pow_add, hj] at this
      exact this
    have e2 : n * 2 ^ j < 2 ^ 53 := by
      have := Nat.mul_lt_mul_of_pos_right hlog2 (Nat.two_pow_pos j)
      rw [← Nat.pow_add] at this
      have e3 : n.log2 + 1 + j = 53 := by omega
      rw [e3] at this
      exact this
    refine ⟨(k - j) * 2 ^ 52 + n * 2 ^ j, ?_, ?_⟩
    · have : infMag = 2047 * 2 ^ 52 := rfl
      have hkj : k - j ≤ 1990 := by omega
      have := Nat.mul_le_mul_right (2 ^ 52) hkj
      omega
    · rw [V_at (by omega) (.inl e1), Nat.mul_assoc, ← Nat.pow_add]
      have : j + (k - j) = k := by omega
      rw [this]

theorem V_lt_succ (t : Nat) : V t < V (t + 1) := by
  obtain ⟨k, q, e, h1, h2, h3⟩ := V_form t
  have : V (t + 1) = (q + 1) * 2 ^ k := by
    rw [e, Nat.add_assoc]
    exact V_at (by omega) (by omega)
  rw [h3, this]
  exact Nat.mul_lt_mul_of_pos_right (Nat.lt_succ_self _) (Nat.two_pow_pos _)
theorem V_lt {a b : Nat} (h : a < b) : V a < V b := by
  induction b with
  | zero => omega
  | succ b ih =>
    rcases Nat.lt_or_ge a b with h' | h'
    · exact Nat.lt_trans (ih h') (V_lt_succ b)
    · have : a = b := by omega
      subst this; exact V_lt_succ a

theorem dist_zero {a b : Nat} (h : dist a b = 0) : a = b := by unfold dist at h; omega

/-- what is exactly representable is hit -/
theorem right_exact {r : UInt64} {neg : Bool} {W D : Nat} {N : Nat} (h : Right r neg (D * N) D) (hD : 0 < D) (hf : Fits N) : Rep r (sgn neg N) := by
  obtain ⟨t, rfl, h1, h2, h3⟩ := h
  obtain ⟨t', ht', rfl⟩ := hf
  have hlt : t < infMag := by
    rcases Nat.lt_or_ge t infMag with h | h
    · exact h
    · exfalso
      have := h2.mp (by omega)
      have hv : V t' ≤ (2 ^ 53 - 1) * 2 ^ 2045 := by
        obtain ⟨k, q, e, g1, g2, g3⟩ := V_form t'
        rw [g3]
        have hi : infMag = 2047 * 2 ^ 52 := rfl
        have hk : k ≤ 2045 := by
          rcases g2 with g2 | g2 <;> omega
        have e1 : q * 2 ^ k ≤ (2 ^ 53 - 1) * 2 ^ k := Nat.mul_le_mul_right _ (by omega)
        have e2 : (2 ^ 53 - 1) * 2 ^ k ≤ (2 ^ 53 - 1) * 2 ^ 2045 := Nat.mul_le_mul_left _ (Nat.pow_le_pow_right (by decide) hk)
        exact Nat.le_trans e1 e2
      have hc : D * ((2 ^ 54 - 1) * 2 ^ 2045) ≤ D * (2 * V t') := by rw [← Nat.mul_assoc D 2, Nat.mul_comm D 2, Nat.mul_assoc]; exact this
      have hc' := Nat.le_of_mul_le_mul_left hc hD
      have h54 : (2 ^ 54 - 1) * 2 ^ 2045 = 2 ^ 2045 * 18014398509481983 := by rw [Nat.mul_comm]
      have h53 : (2 ^ 53 - 1) * 2 ^ 2045 = 2 ^ 2045 * 9007199254740991 := by rw [Nat.mul_comm]
      rw [h54] at hc'; rw [h53] at hv
      have hK : 0 < (2 : Nat) ^ 2045 := Nat.two_pow_pos _
      generalize (2 : Nat) ^ 2045 = K at *
      omega
  have h0 := (h3 hlt t').1
  have hz : dist (D * V t') (D * V t') = 0 := by unfold dist; omega
  rw [hz] at h0
  have he := dist_zero (Nat.le_zero.mp h0)
  have hv : V t' = V t := Nat.eq_of_mul_eq_mul_left hD he
  obtain ⟨m, e, hd, _⟩ := decode_pack neg hlt
  exact ⟨⟨_, _, _, hd⟩, by rw [val_pack neg hlt, hv]⟩

/-- else the error is bounded -/
theorem right_unique {r r' : UInt64} {neg : Bool} {W D : Nat} {z : Int} (h : Right r neg W D) (h' : Right r' neg W D) (hD : 0 < D) (hz : Rep r z) : Rep r' z := by
  obtain ⟨t, rfl, h1, h2, h3⟩ := h
  obtain ⟨t', rfl, h1', h2', h3'⟩ := h'
  have hlt : t < infMag := by
    rcases Nat.lt_or_ge t infMag with h | h
    · exact h
    · exfalso
      have : t = infMag := by omega
      subst this
      obtain ⟨⟨a, m, e, hd⟩, _⟩ := hz
      have hi : decode (pack neg infMag) = .inf neg := by
        have hn := pack_toNat neg (t := infMag) (by decide)
        unfold decode
        simp only [hn]
        cases neg <;> rfl
      rw [hi] at hd; cases hd
  have hlt' : t' < infMag := by
    rcases Nat.lt_or_ge t' infMag with h | h
    · exact h
    · have := h2.mpr (h2'.mp (by omega)); omega
  have key : V t = V t' := by
    rcases Nat.lt_trichotomy t t' with h | h | h
    · exfalso
      have hv := V_lt h
      have a1 := h3 hlt t'
      have a2 := h3' hlt' t
      have hd : dist W (D * V t) = dist W (D * V t') := Nat.le_antisymm a1.1 a2.1
      have p1 := a1.2 (by omega) hd
      have p2 := a2.2 (by omega) hd.symm
      have hs : t + 1 < t' := by omega
      have hv1 := V_lt_succ t
      have hv2 := V_lt hs
      have m1 := (h3 hlt (t + 1)).1
      have b0 := Nat.mul_lt_mul_of_pos_left hv1 hD
      have b1 := Nat.mul_lt_mul_of_pos_left hv2 hD
      unfold dist at hd m1
      omega
    · rw [h]
    · exfalso
      have hv := V_lt h
      have a1 := h3 hlt t'
      have a2 := h3' hlt' t
      have hd : dist W (D * V t) = dist W (D * V t') := Nat.le_antisymm a1.1 a2.1
      have p1 := a1.2 (by omega) hd
      have p2 := a2.2 (by omega) hd.symm
      have hs : t' + 1 < t := by omega
      have hv1 := V_lt_succ t'
      have hv2 := V_lt hs
      have m1 := (h3 hlt (t' + 1)).1
      have b0 := Nat.mul_lt_mul_of_pos_left hv1 hD
      have b1 := Nat.mul_lt_mul_of_pos_left hv2 hD
      unfold dist at hd m1
      omega
  obtain ⟨m, e, hd, _⟩ := decode_pack neg hlt'
  refine ⟨⟨_, _, _, hd⟩, ?_⟩
  rw [← hz.2, val_pack neg hlt, val_pack neg hlt', key]

theorem cmp_rep {x y : UInt64} {p q : Int} (hx : Rep x p) (hy : Rep y q) : cmp x y = some (compare p q) := by
  obtain ⟨⟨a, m, e, h1⟩, rfl⟩ := hx
  obtain ⟨⟨b, k, f, h2⟩, rfl⟩ := hy
  exact cmp_right h1 h2
theorem lt_rep {x y : UInt64} {p q : Int} (hx : Rep x p) (hy : Rep y q) : (cmp x y == some Ordering.lt) = decide (p < q) := by
  rw [cmp_rep hx hy]
  rcases Int.lt_trichotomy p q with h | h | h
  · rw [Int.compare_eq_lt.mpr h]; simp [h]
  · subst h; simp
  · rw [Int.compare_eq_gt.mpr h]; have : ¬ p < q := by omega
    simp [this]
theorem gt_rep {x y : UInt64} {p q : Int} (hx : Rep x p) (hy : Rep y q) : (cmp x y == some Ordering.gt) = decide (q < p) := by
  rw [cmp_rep hx hy]
  rcases Int.lt_trichotomy p q with h | h | h
  · rw [Int.compare_eq_lt.mpr h]; have : ¬ q < p := by omega
    simp [this]
  · subst h; simp
  · rw [Int.compare_eq_gt.mpr h]; simp [h]
theorem eq_rep {x y : UInt64} {p q : Int} (hx : Rep x p) (hy : Rep y q) : (cmp x y == some Ordering.eq) = decide (p = q) := by
  rw [cmp_rep hx hy]
  rcases Int.lt_trichotomy p q with h | h | h
  · rw [Int.compare_eq_lt.mpr h]; have : ¬ p = q := by omega
    simp [this]
  · subst h; simp
  · rw [Int.compare_eq_gt.mpr h]; have : ¬ p = q := by omega
    simp [this]

theorem zero_rep (b : Bool) : Rep (zero b) 0 := by
  obtain ⟨m, e, hd, _⟩ := decode_pack b (t := 0) (by decide)
  refine ⟨⟨_, _, _, hd⟩, ?_⟩
  show val (pack b 0) = 0
  rw [val_pack b (by decide)]
  cases b <;> rfl
theorem rep_zero : Rep 0 0 := zero_rep false

theorem add_rep {x y : UInt64} {p q : Int} (hx : Rep x p) (hy : Rep y q) (hf : Fits (p + q).natAbs) : Rep (add x y) (p + q) := by
  obtain ⟨⟨a, m, e, h1⟩, rfl⟩ := hx
  obtain ⟨⟨b, k, f, h2⟩, rfl⟩ := hy
  obtain ⟨z1, z2⟩ := add_right h1 h2
  by_cases h : val x + val y = 0
  · rw [z1 h, h]; exact zero_rep _
  · have := z2 h
    have r := right_exact (W := 0) (D := 1) (N := (val x + val y).natAbs) (by rw [Nat.one_mul]; exact this) (by decide) hf
    have e : sgn (decide (val x + val y < 0)) (val x + val y).natAbs = val x + val y := by unfold sgn; by_cases h' : val x + val y < 0 <;> simp [h'] <;> omega
    rwa [e] at r
theorem sub_rep {x y : UInt64} {p q : Int} (hx : Rep x p) (hy : Rep y q) (hf : Fits (p - q).natAbs) : Rep (sub x y) (p - q) := by
  obtain ⟨⟨a, m, e, h1⟩, rfl⟩ := hx
  obtain ⟨⟨b, k, f, h2⟩, rfl⟩ := hy
  obtain ⟨z1, z2⟩ := sub_right h1 h2
  by_cases h : val x - val y = 0
  · rw [z1 h, h]; exact zero_rep _
  · have := z2 h
    have r := right_exact (W := 0) (D := 1) (N := (val x - val y).natAbs) (by rw [Nat.one_mul]; exact this) (by decide) hf
    have e : sgn (decide (val x - val y < 0)) (val x - val y).natAbs = val x - val y := by unfold sgn; by_cases h' : val x - val y < 0 <;> simp [h'] <;> omega
    rwa [e] at r
theorem ofInt_rep {i : Int} (hf : i.natAbs ≤ 2 ^ 53) : Rep (ofInt i) (i * ((2 ^ 1074 : Nat) : Int)) := by
  have r := right_exact (W := 0) (D := 1) (N := i.natAbs * 2 ^ 1074) (by rw [Nat.one_mul]; exact ofInt_right i) (by decide) (fits_pow hf (by decide) (by decide))
  have e : sgn (decide (i < 0)) (i.natAbs * 2 ^ 1074) = i * ((2 ^ 1074 : Nat) : Int) := by
    rw [sgn_mul]
    congr 1
    unfold sgn; by_cases h' : i < 0 <;> simp [h'] <;> omega
  rwa [e] at r
end Mine
namespace Mine
theorem rep_of_finite {x : UInt64} (h : isFinite x = true) : Rep x (val x) := by
  refine ⟨?_, rfl⟩
  unfold isFinite at h
  split at h
  · rename_i a m e hd; exact ⟨a, m, e, hd⟩
  · cases h
theorem mul_zero_rep {x y : UInt64} {p : Int} (hx : Rep x p) (hy : Rep y 0) : Rep (mul x y) 0 := by
  obtain ⟨⟨a, m, e, h1⟩, _⟩ := hx
  obtain ⟨⟨b, k, f, h2⟩, h3⟩ := hy
  have r := mul_right h1 h2
  rw [h3] at r
  have := right_exact (W := 0) (D := 2 ^ 1074) (N := 0) (by simpa using r) (Nat.two_pow_pos _) fits_zero
  have e : sgn (a != b) 0 = 0 := by unfold sgn; cases (a != b) <;> rfl
  rwa [e] at this
noncomputable def one' : Int := ((2 ^ 1074 : Nat) : Int)
theorem one_pos : 0 < one' := Int.ofNat_lt.mpr (Nat.two_pow_pos _)
theorem rep_int {i : Int} (hf : i.natAbs ≤ 2 ^ 53) : Rep (ofInt i) (i * one') := ofInt_rep hf
theorem rep_one : Rep 0x3ff0000000000000 one' := by
  have e : (0x3ff0000000000000 : UInt64) = ofInt 1 := by decide +kernel
  rw [e]
  have := rep_int (i := 1) (by decide)
  rwa [Int.one_mul] at this
theorem fits_int {i : Int} (hf : i.natAbs ≤ 2 ^ 53) : Fits (i * one').natAbs := by
  unfold one'
  rw [Int.natAbs_mul, Int.natAbs_natCast]
  exact fits_pow hf (by decide) (by decide)
end Mine
end

section
open PySem PySem.W PySem.Calls PyProof.Rows PySem.SeqAt
set_option Elab.async false
set_option maxRecDepth 100000
set_option linter.all false
namespace Mine
section
variable {prog : Program} {w : World} {A : Around} {E : Value → Shared → Prop} {s ι : Shared} {g : Heap} {l : List (Addr × Ob)} {env : Env} {L : Addr} {names : List (Str × NameKind)} {cells : List (Str × Addr)} {m : Str → Option Value}
variable {Q : Value → Shared → Prop}

-- equality of floats within sequences
theorem eqAt_float {x y : UInt64} {t u : Tok} {p q : Int} (hb : NoneBooked s.heap) (ht : t ≠ 0) (hu : u ≠ 0) (htu : t = u → p = q) (hx : Rep x p) (hy : Rep y q) : EqAt A s (.float x t) (.float y u) (decide (p = q)) := by
  intro prog w E Q hq
  have hxy : x = y → p = q := fun e => by subst e; exact hx.2.symm.trans hy.2
  unfold eqBool
  refine wpAny_holding ?_
  refine wpAny_ite_split (fun hab => ?_) (fun hab => ?_)
  · have e := eq_of_beq hab
    injection e with e1 e2
    rw [decide_eq_true (hxy e1)] at hq
    exact wpAny_bind (wpAny_rule (wpAny_pure hq))
  · have hrc : wpAny (model prog w) A (richCompare .Eq (.float x t) (.float y u) >>= fun r => truthOfDropped r) Q E s := by
      refine wpAny_bind ?_
      show wpAny _ _ (compareOp .Eq (.float x t) (.float y u)) _ _ s
      refine AutoFloatOps.eq_0 ?_
      rw [eq_rep hx hy]
      exact wpAny_truthy_bool hq
    have hT : ∀ {K : Bool → Sem Bool}, (∀ b, (b = true → p = q) → wpAny (model prog w) A (K b) Q E s) → wpAny (model prog w) A (isSame (.float x t) (.float y u) >>= K) Q E s := by
      intro K hK
      refine wpAny_bind ?_
      show wpAny _ _ (isSame.created (x == y && !Float64.isNaN x) t u) _ _ s
      unfold isSame.created
      refine wpAny_ite ?_
      split
      · rename_i h
        simp at h
        rcases h with h | h
        · exact absurd h ht
        · exact absurd h hu
      refine wpAny_ite ?_
      split
      · rename_i h
        exact wpAny_pure (hK true fun _ => htu (by simpa using h))
      refine wpAny_ite ?_
      split
      · exact wpAny_pure (hK false (fun e => nomatch e))
      rename_i h
      have hxe : x = y := by simp at h; exact h.1
      refine wpAny_bind (wpAny_sharingNotTold_none hb ?_)
      first | rw [if_neg Bool.false_ne_true] | simp only [Bool.false_eq_true, if_false]
      refine wpAny_bind (wpAny_sharingNotTold_none hb ?_)
      first | rw [if_neg Bool.false_ne_true] | simp only [Bool.false_eq_true, if_false]
      exact wpAny_bind (wpAny_rule (wpAny_bind (wpAny_askSetting (wpAny_pure (hK _ fun _ => hxy hxe)))))
    refine hT fun b hbe => ?_
    cases b with
    | true =>
      rw [decide_eq_true (hbe rfl)] at hq
      exact wpAny_pure hq
    | false => exact hrc

-- list.append, list.count
theorem e_append {o elt : PySem.Expr} {apos pos : Pos} (hbase : attributeBase o "append" env (eval o env) = eval o env)
    (hfew : ((backTo pos (starEach [elt] env)).all (fun x => !x.1) && (backToKw pos (keywordEach [] env)).all (fun x => x.1.isSome) && decide (([elt] : List PySem.Expr).length + ([] : List Keyword).length + (if ([] : List Keyword).isEmpty then 0 else 1) < 30)) = true)
    (hline : (apos.endLine == pos.line) = true) (htrees : backTo pos (starEach [elt] env) = [(false, eval elt env)])
    (h : wpAny (model prog w) A (eval o env) (fun ov s₁ => ∃ D its, ov = .ref D ∧ PlainL s₁.heap D its ∧ wpAny (model prog w) A (eval elt env) (fun y s₂ => wpAny (model prog w) A (call (.builtin "list.append") [.ref D, y]) Q E s₂) E s₁) E s) :
    wpAny (model prog w) A (eval (.Call (.Attribute o "append" apos) [elt] [] pos) env) Q E s := wpAny_Call_append hbase hfew hline htrees h
theorem Led.plainL (D : Led ι g s l) {a : Addr} {xs : List Value} (hm : (a, Ob.list xs) ∈ l) : PlainL s.heap a xs.toArray := by
  obtain ⟨n, e⟩ := D.here _ hm
  exact ⟨_, n, e, rfl, rfl, rfl⟩
theorem b_append {a : Addr} {xs : List Value} {y : Value} {pre post : List (Addr × Ob)} (D : Led ι g s (pre ++ (a, .list xs) :: post)) (hsz : xs.length ≤ sizeLine) (h : ∀ s', Led ι g s' (pre ++ (a, .list (xs ++ [y])) :: post) → Q .none s') :
    wpAny (model prog w) A (call (.builtin "list.append") [.ref a, y]) Q E s := by
  refine wpAny_list_append_plain (items := xs.toArray) (D.here (a, .list xs) (List.mem_append_right _ (.head _))) (fun h' hl hs => h { s with heap := h' } ?_) (by rw [List.size_toArray]; exact hsz)
  exact Led.turn (n := s.toks) (ob := .list xs) (ob' := .list (xs ++ [y])) D (fun b o hb e => (hs.2 b hb).trans e) (by
    show Heap.PlainList _ _ _
    have : (xs ++ [y]).toArray = xs.toArray.push y := by simp
    rw [this]; exact hl)
theorem e_count {o arg : PySem.Expr} {apos pos : Pos} (hbase : attributeBase o "count" env (eval o env) = eval o env)
    (hfew : ((backTo pos (starEach [arg] env)).all (fun x => !x.1) && (backToKw pos (keywordEach [] env)).all (fun x => x.1.isSome) && decide (([arg] : List PySem.Expr).length + ([] : List Keyword).length + (if ([] : List Keyword).isEmpty then 0 else 1) < 30)) = true)
    (hline : (apos.endLine == pos.line) = true) (htrees : backTo pos (starEach [arg] env) = [(false, eval arg env)])
    (h : wpAny (model prog w) A (eval o env) (fun ov s₁ => ∃ a its, ov = .ref a ∧ PlainL s₁.heap a its ∧ wpAny (model prog w) A (eval arg env) (fun y s₂ => wpAny (model prog w) A (call (.builtin "list.count") [.ref a, y]) Q E s₂) E s₁) E s) :
    wpAny (model prog w) A (eval (.Call (.Attribute o "count" apos) [arg] [] pos) env) Q E s := by
  refine wpAny_Call_method hbase hfew hline PySem.F.plainAttrs_list PySem.F.slot_list_count (by kernel_rfl) (wpAny_mono h (fun ov s₁ hv => ?_) fun _ _ e => e)
  obtain ⟨a, its, rfl, hp, hc⟩ := hv
  refine ⟨hp.isList.typeIs, fun b e => ?_, ?_⟩
  · cases e
    obtain ⟨ob, n, e1, e2, e3, _⟩ := hp
    exact ⟨ob, e1, e3⟩
  · rw [htrees]
    exact callWith_builtin rfl (evalArgs_plain (spliced_cons (wpAny_mono hc (fun y s₂ h₂ => spliced_nil h₂) fun _ _ e => e)))
theorem b_count {a : Addr} {xs : List Value} {v : Value} (f : Value → Bool) (D : Led ι g s l) (hl : s.heap.IsList a xs.toArray) (he : ∀ y, y ∈ xs → EqAt A.in1.in1 s y v (f y)) (h : ∀ t s', Led ι g s' l → Q (.int (xs.countP f : Nat) t) s') :
    wpAny (model prog w) A (call (.builtin "list.count") [.ref a, v]) Q E s := by
  obtain ⟨⟨cls, dd, data, sl⟩, ho, hc, n, hd⟩ := id hl
  simp only at hc hd
  subst hc hd
  refine call_meets PySem.F.slot_list_count ⟨_, ho, rfl⟩ PySem.F.entry_list_count (PySem.F.args_list_count_2 _ _) (list_countAt a xs.toArray n dd sl v f) ⟨ho, fun y hy => (he y (by simpa using hy)).of_in1, ?_⟩
  exact h _ _ D.tok

-- comparisons of sequences
theorem t_eq {a b : Addr} {xs ys : List Value} {f : Nat → Bool} (hl : IsTup s.heap a xs.toArray) (hb : IsTup s.heap b ys.toArray) (hu : A.units < cLine) (he : ∀ j (h1 : j < xs.toArray.size) (h2 : j < ys.toArray.size), EqAt A.in1 s xs.toArray[j] ys.toArray[j] (f j))
    (h : Q (.bool ((List.range (min xs.toArray.size ys.toArray.size)).all f && xs.toArray.size == ys.toArray.size)) s) : wpAny (model prog w) A (compareOp .Eq (.ref a) (.ref b)) Q E s := eq_tupleAt hl hb hu he h
theorem t_ne {a b : Addr} {xs ys : List Value} {f : Nat → Bool} (hl : IsTup s.heap a xs.toArray) (hb : IsTup s.heap b ys.toArray) (hu : A.units < cLine) (he : ∀ j (h1 : j < xs.toArray.size) (h2 : j < ys.toArray.size), EqAt A.in1 s xs.toArray[j] ys.toArray[j] (f j))
    (h : Q (.bool (!((List.range (min xs.toArray.size ys.toArray.size)).all f && xs.toArray.size == ys.toArray.size))) s) : wpAny (model prog w) A (compareOp .NotEq (.ref a) (.ref b)) Q E s := RcNeAt.tuples hl hb hu he prog w E Q h
theorem l_ne {a b : Addr} {xs ys : List Value} {f : Nat → Bool} (hl : s.heap.IsList a xs.toArray) (hb : s.heap.IsList b ys.toArray) (hsz : xs.toArray.size = ys.toArray.size) (hu : A.units < cLine) (he : ∀ j (h1 : j < xs.toArray.size) (h2 : j < ys.toArray.size), EqAt A.in1 s xs.toArray[j] ys.toArray[j] (f j))
    (h : Q (.bool (!(List.range xs.toArray.size).all f)) s) : wpAny (model prog w) A (compareOp .NotEq (.ref a) (.ref b)) Q E s := RcNeAt.lists hl hb hsz hu he prog w E Q h
theorem l_eq_len {a b : Addr} {xs ys : List Value} (hl : s.heap.IsList a xs.toArray) (hb : s.heap.IsList b ys.toArray) (hsz : (xs.toArray.size != ys.toArray.size) = true) (hu : A.units < cLine) (h : Q (.bool false) s) :
    wpAny (model prog w) A (compareOp .Eq (.ref a) (.ref b)) Q E s := eq_list_lengthsAt hl hb hsz hu h

-- built-ins
theorem b_sum {a : Addr} {xs : List Value} {ns : List Int} (hh : A.handled = none) (D : Led ι g s l) (hl : s.heap.IsList a xs.toArray) (hi : IntsAre xs ns) (h : ∀ t s', Led ι g s' l → Q (.int ns.sum t) s') : wpAny (model prog w) A (call (.builtin "sum") [.ref a]) Q E s := by
  obtain ⟨zs, hz⟩ := hi.allInts.items
  rw [hz] at hl
  refine wpAny_with_toks (n := s.toks) (Nat.le_refl _) (sum_intListG hh hl fun h' tk t' hk htk => ?_)
  have e : preSum (numAt zs) zs.size = ns.sum := by
    have h1 := hi.numsOf
    rw [show xs = (intItems zs).toList from by rw [← hz], nums_intItems] at h1
    rw [preSum_eq, List.take_of_length_le (by simp), ← h1]
  rw [e]
  exact h _ _ (D.grow hk htk)
theorem b_min2 {a b : Int} {t u : Tok} (hh : A.handled = none) (D : Led ι g s l) (h : ∀ t s', Led ι g s' l → Q (.int (min a b) t) s') : wpAny (model prog w) A (call (.builtin "min") [.int a t, .int b u]) Q E s := by
  refine wpAny_with_toks (n := s.toks) (Nat.le_refl _) (min_two_ints hh fun h' tk hk htk => ?_)
  by_cases hba : b < a
  · rw [if_pos hba]
    have : min a b = b := by omega
    rw [← this]; exact h _ _ (D.grow hk htk)
  · rw [if_neg hba]
    have : min a b = a := by omega
    have h2 := h t _ (D.grow hk htk)
    rwa [this] at h2
theorem b_type {x : Value} {T : String} (hx : s.TypeIs x T) (hnb : (Value.type T == Value.type "builtin_function_or_method") = false) (h : Q (.type T) s) : wpAny (model prog w) A (call (.type "type") [x]) Q E s := call_type_of hx hnb h
theorem b_int {x : UInt64} {u : Tok} {sg : Bool} {n : Nat} {e : Int} (D : Led ι g s l) (hd : Float64.decode x = .fin sg n e) (h : ∀ t s', Led ι g s' l → Q (.int (Float64.truncOf sg n e) t) s') : wpAny (model prog w) A (call (.type "int") [.float x u]) Q E s := call_int_float hd (h _ _ D.tok)
end
end Mine
end

section
open PySem PySem.W PySem.Calls PyProof.Rows PySem.SeqAt
set_option Elab.async false
set_option maxRecDepth 100000
set_option linter.all false
namespace Mine
section
variable {prog : Program} {w : World} {A : Around} {E : Value → Shared → Prop} {s ι : Shared} {g : Heap} {l : List (Addr × Ob)} {env : Env} {L : Addr} {names : List (Str × NameKind)} {cells : List (Str × Addr)} {m : Str → Option Value}

-- unpacking
theorem draw_iter {ob : Nat → Ob} {n : Nat} {P : Nat → Value → Prop} (IO : IterOk prog w A g ob n P) (I : Addr) (xs : List Value) (hxs : xs.length = n) (hP : ∀ i v, P i v → xs[i]? = some v) :
    ∀ (k i : Nat) (s : Shared) (Q : List Value → Shared → Prop), i + k = n → Led ι g s ((I, ob i) :: l) → (∀ s', Led ι g s' ((I, ob n) :: l) → Q (xs.drop i) s') → wpAny (model prog w) A (draw (.ref I) k) Q E s
  | 0, i, s, Q, hk, D, h => by
    have : i = n := by omega
    subst this
    have e : xs.drop i = [] := List.drop_of_length_le (by omega)
    have := h s D
    rw [e] at this
    exact wpAny_pure this
  | k + 1, i, s, Q, hk, D, h => by
    show wpAny _ _ (do match ← pyNext (.ref I) with | none => pure [] | some v => return v :: (← holding [v] (draw (.ref I) k))) _ _ s
    refine wpAny_bind (IO.item i I ι s g l _ _ (Sub.refl g) (by omega) D fun v s' hv D' => ?_)
    refine wpAny_bind (wpAny_holding (draw_iter IO I xs hxs hP k (i + 1) s' _ (by omega) D' fun s'' D'' => wpAny_pure ?_))
    have hx := hP i v hv
    have hlt : i < xs.length := by omega
    have e : xs.drop i = v :: xs.drop (i + 1) := by
      rw [List.drop_eq_getElem_cons hlt]
      rw [List.getElem?_eq_getElem hlt] at hx
      rw [Option.some.inj hx]
    have := h s'' D''
    rwa [e] at this

theorem un_list {a : Addr} {xs : List Value} {Q : List Value → Shared → Prop} (hh : A.handled = none) (D : Led ι g s l) (hl : g.IsList a xs.toArray) (h : ∀ s', Led ι g s' l → Q xs s') : wpAny (model prog w) A (unpackItems (.ref a) xs.length none) Q E s := by
  unfold unpackItems
  refine wpAny_bind ?_
  unfold notIterableAtAll
  refine wpAny_bind (wpAny_specialOf (D.lstG hl).typeIs slot_list_iter.lookup ?_)
  refine wpAny_pure ?_
  simp only [Bool.false_eq_true, if_false]
  refine wpAny_bind (wpAny_holding (it_list D hl fun I s₁ D₁ => ?_))
  refine wpAny_bind (wpAny_holding (draw_iter (iter_list hh hl) I xs rfl (fun i v e => e) xs.length 0 s₁ _ (by omega) D₁ fun s₂ D₂ => ?_))
  rw [List.drop_zero, if_neg (by omega)]
  refine wpAny_bind (wpAny_holding ((iter_list (prog := prog) (w := w) hh hl).done I ι s₂ g l _ _ (Sub.refl g) D₂ fun s₃ D₃ => ?_))
  simp only [Option.isSome_none, Bool.false_eq_true, if_false]
  exact wpAny_pure (h s₃ D₃)
theorem un_tup {a : Addr} {xs : List Value} {n : Nat} {Q : List Value → Shared → Prop} (hh : A.handled = none) (D : Led ι g s l) (hl : IsTup s.heap a xs.toArray) (hn : n = xs.length) (h : ∀ s', Led ι g s' l → Q xs s') : wpAny (model prog w) A (unpackItems (.ref a) n none) Q E s := by
  subst hn
  have e : xs.length = xs.toArray.size := by simp
  rw [e]
  exact unpackItems_tuple hh hl fun h' he => h { s with heap := h' } (D.grow' fun b o q => he b o (Nat.ne_of_lt (Heap.lt_size q)) q)
theorem a_tupL {elts : List PySem.Expr} {k : Nat} {p : Pos} {a : Addr} {xs : List Value} {Q : Unit → Shared → Prop} (hh : A.handled = none) (D : Led ι g s l) (hl : g.IsList a xs.toArray) (hn : (assignEach elts env).length = xs.length) (hst : (assignEach elts env).findIdx? (·.1) = none)
    (h : ∀ s', Led ι g s' l → wpAny (model prog w) A (assignInOrder ((assignEach elts env).map (·.2)) xs) Q E s') : wpAny (model prog w) A (assign (.Tuple elts k p) env (.ref a)) Q E s := by
  rw [assign_Tuple]
  refine wpAny_bind (wpAny_standAt ?_)
  unfold unpack
  rw [hn, hst]
  exact wpAny_bind (wpAny_holding (un_list hh D hl h))
theorem a_tupT {elts : List PySem.Expr} {k : Nat} {p : Pos} {a : Addr} {xs : List Value} {Q : Unit → Shared → Prop} (hh : A.handled = none) (D : Led ι g s l) (hl : IsTup s.heap a xs.toArray) (hn : (assignEach elts env).length = xs.length) (hst : (assignEach elts env).findIdx? (·.1) = none)
    (h : ∀ s', Led ι g s' l → wpAny (model prog w) A (assignInOrder ((assignEach elts env).map (·.2)) xs) Q E s') : wpAny (model prog w) A (assign (.Tuple elts k p) env (.ref a)) Q E s := by
  rw [assign_Tuple]
  refine wpAny_bind (wpAny_standAt ?_)
  unfold unpack
  rw [hn, hst]
  exact wpAny_bind (wpAny_holding (un_tup hh D hl rfl h))
theorem ao_nil {xs : List Value} {Q : Unit → Shared → Prop} (h : Q () s) : wpAny (model prog w) A (assignInOrder [] xs) Q E s := assignInOrder_nil h
theorem ao_cons {t : Value → Sem Unit} {ts : List (Value → Sem Unit)} {x : Value} {xs : List Value} {Q : Unit → Shared → Prop} (h : wpAny (model prog w) A (t x) (fun _ s₁ => wpAny (model prog w) A (assignInOrder ts xs) Q E s₁) E s) :
    wpAny (model prog w) A (assignInOrder (t :: ts) (x :: xs)) Q E s := assignInOrder_cons h
theorem x_asgTup {elts : List PySem.Expr} {k : Nat} {tp p : Pos} {value : PySem.Expr} {rest : List Stmt} {Q : Flow → Shared → Prop} (hs : swapsWithSole [.Tuple elts k tp] value p.line env = pure false) (hw : swappedStores [.Tuple elts k tp] value env = pure none)
    (h : wpAny (model prog w) A (eval value env) (fun v s₁ => wpAny (model prog w) A (assign (.Tuple elts k tp) env v) (fun _ s₂ => wpAny (model prog w) A (execs rest env) Q E s₂) E s₁) E s) : wpAny (model prog w) A (execs (.Assign [.Tuple elts k tp] value p :: rest) env) Q E s :=
  wpAny_execs_cons (Assign_Tuple h hs hw)
theorem x_asgSwap {elts : List PySem.Expr} {k : Nat} {tp p : Pos} {value : PySem.Expr} {ns : List Str} {rest : List Stmt} {Q : Flow → Shared → Prop} (hs : swapsWithSole [.Tuple elts k tp] value p.line env = pure false) (hw : swappedStores [.Tuple elts k tp] value env = pure (some ns))
    (h : wpAny (model prog w) A (eval value env) (fun v s₁ => wpAny (model prog w) A (unpackItems v ns.length none) (fun items s₂ =>
      wpAny (model prog w) A (assignInOrder (ns.reverse.map fun n => bindName env n) items.reverse) (fun _ s₃ => wpAny (model prog w) A (execs rest env) Q E s₃) E s₂) E s₁) E s) : wpAny (model prog w) A (execs (.Assign [.Tuple elts k tp] value p :: rest) env) Q E s :=
  wpAny_execs_cons (Assign_Tuple_swapped h hs hw)
theorem b_name {x : Str} {v : Value} {Q : Unit → Shared → Prop} (h : wpAny (model prog w) A (storeName env x v) Q E s) : wpAny (model prog w) A (bindName env x v) Q E s := wpAny_bindName h

-- slices
variable {Q : Value → Shared → Prop}
theorem e_sl2 {e₁ e₂ : PySem.Expr} {p : Pos} (h : wpAny (model prog w) A (eval e₁ env) (fun v₁ s₁ => wpAny (model prog w) A (eval e₂ env) (fun v₂ s₂ => wpAny (model prog w) A (newFields "slice" [v₁, v₂, .none]) Q E s₂) E s₁) E s) :
    wpAny (model prog w) A (eval (.Slice (some e₁) (some e₂) none p) env) Q E s := by
  rw [arm_eval_Slice]
  exact wpAny_bind (wpAny_mono h (fun v₁ s₁ h₁ => wpAny_bind (wpAny_holding (wpAny_mono h₁ (fun v₂ s₂ h₂ => wpAny_bind (wpAny_holding (wpAny_pure h₂))) fun _ _ e => e))) fun _ _ e => e)
theorem e_sl1 {e₁ : PySem.Expr} {p : Pos} (h : wpAny (model prog w) A (eval e₁ env) (fun v₁ s₁ => wpAny (model prog w) A (newFields "slice" [v₁, .none, .none]) Q E s₁) E s) :
    wpAny (model prog w) A (eval (.Slice (some e₁) none none p) env) Q E s := by
  rw [arm_eval_Slice]
  exact wpAny_bind (wpAny_mono h (fun v₁ s₁ h₁ => wpAny_bind (wpAny_holding (wpAny_pure (wpAny_bind (wpAny_holding (wpAny_pure h₁)))))) fun _ _ e => e)
theorem n_slice {v₁ v₂ v₃ : Value} (D : Led ι g s l) (h : ∀ a s', s'.heap.IsSliceOf a v₁ v₂ v₃ → Led ι g s' l → Q (.ref a) s') : wpAny (model prog w) A (newFields "slice" [v₁, v₂, v₃]) Q E s :=
  wpAny_newObj_type (h _ _ (Heap.IsSliceOf.new ..) (D.grow' fun b o e => Heap.get?_push_of_some _ e))
theorem t_slice {value slice : PySem.Expr} {a sl : Addr} {xs : List Value} {k : Nat} {u : Tok} (D : Led ι g s ((L, .ns m) :: l)) (hl : IsTup s.heap a xs.toArray) (hsl : s.heap.IsSliceOf sl (.int (k : Nat) u) .none .none) (h1 : 1 ≤ k) (h2 : k ≤ xs.length) (hsz : xs.length ≤ sizeLine)
    (hs : subscripted slice false (.ref a) (.ref sl) = operate [.ref sl, .ref a] (getItem (.ref a) (.ref sl)))
    (h : ∀ r s', Led ι g s' ((L, .ns m) :: (r, .tup (xs.drop k)) :: l) → Q (.ref r) s') : wpAny (model prog w) A (subscriptTail value slice (.ref a) (.ref sl)) Q E s := by
  refine tail_any hl.typeIs slot_tuple_getitem.lookup (getItem_tuple_from hl hsl h1 (by simpa using h2) ?_ (by rw [List.size_toArray]; exact hsz)) hs
  exact h _ _ (Led.perm (Led.new (a := s.heap.objs.size) (ob := .tup (xs.drop k)) (n := s.toks) D (fun b o e => Heap.get?_push_of_some _ e) (size_none _) ⟨_, Heap.get?_push_size _ rfl⟩) (List.Perm.swap _ _ _))
theorem s_neg {value slice : PySem.Expr} {a : Addr} {xs : List Value} {k : Int} {u : Tok} {x : Value} (hl : s.heap.IsList a xs.toArray) (h0 : k < 0) (h1 : -(xs.length : Int) ≤ k) (hf : -(2 ^ 63) ≤ k) (hx : xs[(k + xs.length).toNat]? = some x)
    (hs : subscripted slice false (.ref a) (.int k u) = operate [.ref a, .int k u] (getItem (.ref a) (.int k u))) (h : Q x s) : wpAny (model prog w) A (subscriptTail value slice (.ref a) (.int k u)) Q E s :=
  tail_any hl.typeIs slot_list_getitem.lookup (wpAny_getItem_list_neg hl h0 (by rw [List.size_toArray]; exact h1) hf (by rw [List.size_toArray]; simpa using hx) h) hs
theorem e_usub {e : PySem.Expr} {p : Pos} (h : wpAny (model prog w) A (eval e env) (fun v s₁ => wpAny (model prog w) A (unaryOp .USub v) Q E s₁) E s) : wpAny (model prog w) A (eval (.UnaryOp .USub e p) env) Q E s :=
  wpAny_bind (wpAny_mono h (fun v s₁ h₁ => wpAny_bind (wpAny_standAt (wpAny_holding h₁))) fun _ _ x => x)
theorem i_neg {a : Int} {t : Tok} (D : Led ι g s l) (h : ∀ t s', Led ι g s' l → Q (.int (-a) t) s') : wpAny (model prog w) A (unaryOp .USub (.int a t)) Q E s := P.neg_int (h _ _ D.tok)

-- a list's item is turned
theorem x_augSub {o i value : PySem.Expr} {sp p : Pos} {op : Operator} {rest : List Stmt} {Q : Flow → Shared → Prop} (hns : ∀ ov iv new, augStore i ov iv new = (do holding [new, ov, iv] (setItem ov iv new); release [new, ov, iv] []; pure .next))
    (h : wpAny (model prog w) A (eval o env) (fun ov s₁ => wpAny (model prog w) A (eval i env) (fun iv s₂ => wpAny (model prog w) A (getItem ov iv) (fun old s₃ => wpAny (model prog w) A (eval value env) (fun v s₄ => wpAny (model prog w) A (inplaceOp op old v)
      (fun r s₅ => wpAny (model prog w) A (setItem ov iv r) (fun _ s₆ => wpAny (model prog w) A (execs rest env) Q E s₆) E s₅) E s₄) E s₃) E s₂) E s₁) E s) : wpAny (model prog w) A (execs (.AugAssign (.Subscript o i sp) op value p :: rest) env) Q E s := by
  refine wpAny_execs_cons ?_
  rw [arm_exec_AugAssign_3]
  refine wpAny_bind (wpAny_standAt (wpAny_bind (wpAny_mono h (fun ov s₁ h₁ => wpAny_bind (wpAny_holding (wpAny_mono h₁ (fun iv s₂ h₂ => ?_) fun _ _ x => x))) fun _ _ x => x)))
  refine wpAny_bind (wpAny_holding (wpAny_bind (wpAny_standAt (wpAny_bind (wpAny_mono h₂ (fun old s₃ h₃ => wpAny_bind (wpAny_holding (wpAny_mono h₃ (fun v s₄ h₄ => wpAny_bind (wpAny_standAt ?_)) fun _ _ x => x))) fun _ _ x => x)))))
  have hop : wpAny (model prog w) A (operate [old, v] (inplaceOp op old v)) (fun r s₅ => wpAny (model prog w) A (setItem ov iv r) (fun _ s₆ => wpAny (model prog w) A (execs rest env) Q E s₆) E s₅) E s₄ := fun Γ q hΓ => by
    rw [Sem.wp_operate]; exact h₄ Γ q hΓ
  refine wpAny_mono hop (fun r s₅ h₅ => wpAny_bind (wpAny_standAt ?_)) fun _ _ x => x
  rw [hns]
  refine wpAny_bind (wpAny_holding (wpAny_mono h₅ (fun _ s₆ h₆ => ?_) fun _ _ x => x))
  refine wpAny_bind (fun Γ q hΓ => ?_)
  rw [Sem.wp_release]
  exact wpAny_pure h₆
theorem g_list {a : Addr} {xs : List Value} {k : Int} {u : Tok} {x : Value} (hl : s.heap.IsList a xs.toArray) (h0 : 0 ≤ k) (hf : k < 2 ^ 63) (hx : xs[k.toNat]? = some x) (h : Q x s) : wpAny (model prog w) A (getItem (.ref a) (.int k u)) Q E s :=
  wpAny_getItem_list hl h0 hf (by simpa using hx) h
theorem b_set {a : Addr} {xs : List Value} {k : Int} {u : Tok} {v : Value} {pre post : List (Addr × Ob)} {Q : Unit → Shared → Prop} (D : Led ι g s (pre ++ (a, .arr xs) :: post)) (h0 : 0 ≤ k) (hf : k < 2 ^ 63) (hn : k < xs.length)
    (h : ∀ s', Led ι g s' (pre ++ (a, .arr (xs.set k.toNat v)) :: post) → Q () s') : wpAny (model prog w) A (setItem (.ref a) (.int k u) v) Q E s := by
  refine wpAny_setItem_list (items := xs.toArray) (D.here (a, .arr xs) (List.mem_append_right _ (.head _))) h0 hf (by simpa using hn) fun h' hl hs => h { s with heap := h' } ?_
  exact Led.turn (n := s.toks) (ob := .arr xs) (ob' := .arr (xs.set k.toNat v)) D (fun b o hb e => (hs.2 b hb).trans e) (by
    show Heap.IsList _ _ _
    have : (xs.set k.toNat v).toArray = xs.toArray.setIfInBounds k.toNat v := by simp
    rw [this]; exact hl)
theorem x_setSub {o i value : PySem.Expr} {sp p : Pos} {rest : List Stmt} {Q : Flow → Shared → Prop} (hs : swapsWith value (some (.Subscript o i sp)) p.line env = pure false)
    (h : wpAny (model prog w) A (eval value env) (fun v s₁ => wpAny (model prog w) A (eval o env) (fun ov s₂ => wpAny (model prog w) A (eval i env) (fun iv s₃ => wpAny (model prog w) A (setItem ov iv v) (fun _ s₄ => wpAny (model prog w) A (execs rest env) Q E s₄) E s₃) E s₂) E s₁) E s) :
    wpAny (model prog w) A (execs (.Assign [.Subscript o i sp] value p :: rest) env) Q E s := wpAny_execs_cons (wpAny_Assign_Subscript h hs)
end
end Mine
end

section
open PySem PySem.W PySem.Calls PyProof.Rows PySem.SeqAt
set_option Elab.async false
set_option maxRecDepth 100000
set_option linter.all false
namespace Mine

inductive All2 {α β : Type} (R : α → β → Prop) : List α → List β → Prop where
  | nil : All2 R [] []
  | cons {a b as bs} : R a b → All2 R as bs → All2 R (a :: as) (b :: bs)
namespace All2
variable {α β : Type} {R S : α → β → Prop} {as : List α} {bs : List β}
theorem length (h : All2 R as bs) : as.length = bs.length := by
  induction h with
  | nil => rfl
  | cons _ _ ih => simp [ih]
theorem mono (h : All2 R as bs) (k : ∀ a b, R a b → S a b) : All2 S as bs := by
  induction h with
  | nil => exact .nil
  | cons h _ ih => exact .cons (k _ _ h) ih
theorem snoc (h : All2 R as bs) {a : α} {b : β} (hab : R a b) : All2 R (as ++ [a]) (bs ++ [b]) := by
  induction h with
  | nil => exact .cons hab .nil
  | cons h _ ih => exact .cons h ih
theorem append {as' : List α} {bs' : List β} (h : All2 R as bs) (h' : All2 R as' bs') : All2 R (as ++ as') (bs ++ bs') := by
  induction h with
  | nil => exact h'
  | cons h _ ih => exact .cons h ih
theorem get (h : All2 R as bs) {i : Nat} {a : α} (e : as[i]? = some a) : ∃ b, bs[i]? = some b ∧ R a b := by
  induction h generalizing i with
  | nil => simp at e
  | cons h _ ih =>
    cases i with
    | zero => simp at e; subst e; exact ⟨_, rfl, h⟩
    | succ i => simp at e; obtain ⟨b, h1, h2⟩ := ih e; exact ⟨b, by simpa using h1, h2⟩
theorem get' (h : All2 R as bs) {i : Nat} {b : β} (e : bs[i]? = some b) : ∃ a, as[i]? = some a ∧ R a b := by
  induction h generalizing i with
  | nil => simp at e
  | cons h _ ih =>
    cases i with
    | zero => simp at e; subst e; exact ⟨_, rfl, h⟩
    | succ i => simp at e; obtain ⟨a, h1, h2⟩ := ih e; exact ⟨a, by simpa using h1, h2⟩
theorem drop1 {n : Nat} (h : All2 R as bs) : All2 R (as.drop n) (bs.drop n) := by
  induction h generalizing n with
  | nil => simp; exact .nil
  | cons h t ih =>
    cases n with
    | zero => exact .cons h t
    | succ n => exact ih
theorem mem (h : All2 R as bs) {a : α} (ha : a ∈ as) : ∃ b, b ∈ bs ∧ R a b := by
  induction h with
  | nil => cases ha
  | cons h _ ih =>
    rcases List.mem_cons.mp ha with rfl | ha
    · exact ⟨_, .head _, h⟩
    · obtain ⟨b, h1, h2⟩ := ih ha; exact ⟨b, .tail _ h1, h2⟩
end All2

noncomputable abbrev Col := Int × Int × Int
noncomputable def ColAt (g : Heap) (v : Value) (c : Col) : Prop := ∃ b t₁ t₂ t₃, v = .ref b ∧ IsTup g b [.int c.1 t₁, .int c.2.1 t₂, .int c.2.2 t₃].toArray
theorem ColAt.mono {g g' : Heap} {v : Value} {c : Col} (h : ColAt g v c) (k : Sub g g') : ColAt g' v c := by
  obtain ⟨b, t₁, t₂, t₃, e, h⟩ := h
  exact ⟨b, t₁, t₂, t₃, e, h.keeps k⟩
noncomputable def RowAt (g : Heap) (a : Addr) (cs : List Col) : Prop := ∃ vs : List Value, g.IsList a vs.toArray ∧ All2 (ColAt g) vs cs
theorem RowAt.mono {g g' : Heap} {a : Addr} {cs : List Col} (h : RowAt g a cs) (k : Sub g g') : RowAt g' a cs := by
  obtain ⟨vs, h1, h2⟩ := h
  exact ⟨vs, h1.at fun o e => k _ _ e, h2.mono fun _ _ h => h.mono k⟩
noncomputable def Good (T : Int) (c : Col) : Prop := (0 ≤ c.1 ∧ c.1 ≤ T) ∧ (0 ≤ c.2.1 ∧ c.2.1 ≤ T) ∧ (0 ≤ c.2.2 ∧ c.2.2 ≤ T)

section
variable {ι : Shared} {g : Heap} {s : Shared} {l : List (Addr × Ob)} {env : Env} {L : Addr} {names : List (Str × NameKind)} {cells : List (Str × Addr)}
theorem EnvIs.inter (V : EnvIs env L names cells) : interactive env = false := by unfold interactive; rw [V.kind]; rfl
theorem Led.freezeAt {pre post : List (Addr × Ob)} {a : Addr} {ob : Ob} (D : Led ι g s (pre ++ (a, ob) :: post)) : ∃ g', Sub g g' ∧ Led ι g' s (pre ++ post) ∧ ob.At g' a := by
  have D' : Led ι g s ([(a, ob)] ++ (pre ++ post)) := D.perm (show ((a, ob) :: (pre ++ post)).Perm (pre ++ (a, ob) :: post) from List.perm_middle.symm)
  obtain ⟨g', h1, h2, h3, _⟩ := D'.freeze
  exact ⟨g', h1, h2, h3 (a, ob) (.head _)⟩

section
variable {prog : Program} {w : World} {A : Around} {E : Value → Shared → Prop}
theorem it_range' {r : Addr} {a b c : Int} {n : Nat} {Q : Value → Shared → Prop} (D : Led ι g s ((r, .rng a b c) :: l)) (hs : Builtin.Range.small a b c = true) (hn : Builtin.Range.rangeSize a b c = n)
    (h : ∀ I s', Led ι g s' ((I, .riter (a + ((0 : Nat) : Int) * c) ((n : Int) - ((0 : Nat) : Int)) c) :: l) → Q (.ref I) s') : wpAny (model prog w) A (pyIter (.ref r)) Q E s := by
  refine it_range D hs hn fun I s' D' => h I s' ?_
  have e1 : a + ((0 : Nat) : Int) * c = a := by simp
  have e2 : (n : Int) - ((0 : Nat) : Int) = n := by simp
  rw [e1, e2]; exact D'
theorem size3 (n : Nat) : Builtin.Range.rangeSize 0 (n : Int) 3 = (((n + 2) / 3 : Nat) : Int) := by
  unfold Builtin.Range.rangeSize
  rw [if_pos (by decide)]
  split <;> omega
theorem fitsLong {x : Int} (h1 : -(2 ^ 63) ≤ x) (h2 : x < 2 ^ 63) : Builtin.Range.rangeFitsLong x = true := by
  unfold Builtin.Range.rangeFitsLong
  rw [decide_eq_true h1, decide_eq_true h2]; rfl
theorem small3 {n : Nat} (h : n < 2 ^ 60) : Builtin.Range.small 0 (n : Int) 3 = true := by
  unfold Builtin.Range.small
  rw [size3, fitsLong (x := 0) (by decide) (by decide), fitsLong (x := (n : Int)) (by omega) (by omega), fitsLong (x := 3) (by decide) (by decide), fitsLong (x := (((n + 2) / 3 : Nat) : Int)) (by omega) (by omega), if_pos (by decide), fitsLong (x := (n : Int) + (3 - 1)) (by omega) (by omega)]
  simp
end
end
end Mine
end

section
open PySem PySem.W PySem.Calls PyProof.Rows PySem.SeqAt
set_option Elab.async false
set_option maxRecDepth 100000
set_option linter.all false
namespace Mine
theorem turn2_1 (elt : PySem.Expr) (c0 : Comprehension) (t1 it1 : PySem.Expr) (scope : Scope) (pos : Pos) (it acc : Value) (env : Env) :
    compTurn (.ListComp elt [c0, ⟨t1, it1, [], 0⟩] scope pos) 1 it acc env = (standAt it1.pos >>= fun _ => pyNext it >>= fun r => match r with
      | none => pure (.done .next)
      | some v => letOwnedTupleGo t1 it v >>= fun _ => assign t1 env v >>= fun _ =>
        (eval elt env >>= fun x => call (.builtin "list.append") [acc, x] >>= fun _ => pure ()) >>= fun _ =>
          again (.compLoop (.ListComp elt [c0, ⟨t1, it1, [], 0⟩] scope pos) 1 it acc env)) := by rfl
theorem turn2_0 (elt t0 it0 : PySem.Expr) (t1 it1 : PySem.Expr) (scope : Scope) (pos : Pos) (it acc : Value) (env : Env) :
    compTurn (.ListComp elt [⟨t0, it0, [], 0⟩, ⟨t1, it1, [], 0⟩] scope pos) 0 it acc env = (standAt it0.pos >>= fun _ => pyNext it >>= fun r => match r with
      | none => pure (.done .next)
      | some v => letOwnedTupleGo t0 it v >>= fun _ => assign t0 env v >>= fun _ =>
        eval it1 env >>= fun x => standAt it1.pos >>= fun _ => foldedSetIterable it1 env x >>= fun x => holding [x] (pyIter x) >>= fun it' => runOwn (.compStart (.ListComp elt [⟨t0, it0, [], 0⟩, ⟨t1, it1, [], 0⟩] scope pos) 1 it' acc env) env >>= fun _ =>
          again (.compLoop (.ListComp elt [⟨t0, it0, [], 0⟩, ⟨t1, it1, [], 0⟩] scope pos) 0 it acc env)) := by rfl

section
variable {prog : Program} {w : World} {A : Around} {E : Value → Shared → Prop} {s ι : Shared} {g : Heap} {l : List (Addr × Ob)} {env : Env} {L : Addr} {names : List (Str × NameKind)} {cells : List (Str × Addr)}

/-- the start of the inner clause -/
theorem start2_1 {elt t1 it1 : PySem.Expr} {c0 : Comprehension} {scope : Scope} {pos : Pos} {it acc : Value} {env : Env} {R : Result → Shared → Prop}
    (h0 : codeAny (model prog w) A (.compLoop (.ListComp elt [c0, ⟨t1, it1, [], 0⟩] scope pos) 1 it acc env) R s)
    (h : wpAny (model prog w) A (pyIter it) (fun it' s' => codeAny (model prog w) A (.compLoop (.ListComp elt [c0, ⟨t1, it1, [], 0⟩] scope pos) 1 it' acc env) R s') (fun _ _ => False) s) :
    codeAny (model prog w) A (.compStart (.ListComp elt [c0, ⟨t1, it1, [], 0⟩] scope pos) 1 it acc env) R s := by
  refine codeAny_of_tree ?_
  show wpAny _ _ ((compStart (.ListComp elt [c0, ⟨t1, it1, [], 0⟩] scope pos) 1 it acc env).onRaise (fun x => do noteFrame x env; standAt theWindowsPlace)) _ _ s
  refine wpAny_notedAt ?_
  unfold compStart
  show wpAny _ _ (ask >>= _) _ _ s
  refine wpAny_bind (wpAny_askSetting (wpAny_ite ?_))
  have h' : wpAny (model prog w) A (pyIter it) (fun it' s' => codeAny (model prog w) A (.compLoop (.ListComp elt [c0, ⟨t1, it1, [], 0⟩] scope pos) 1 it' acc env) R s') (notedBy (model prog w) A env fun x s' => R (.error x) s') s := wpAny_mono h (fun _ _ x => x) fun _ _ e => e.elim
  split
  · first
      | exact wpAny_bind (wpAny_pure (wpAny_pure (And.intro rfl h0)))
      | exact wpAny_pure (And.intro rfl h0)
  · first
      | exact wpAny_bind (wpAny_rule (wpAny_bind (wpAny_standAt (wpAny_bind (wpAny_mono h' (fun it' s' h' => wpAny_pure (And.intro rfl h')) fun _ _ x => x)))))
      | (refine wpAny_bind (wpAny_rule ?_); show wpAny _ _ (standAt it1.pos >>= _) _ _ s; exact wpAny_bind (wpAny_standAt (wpAny_bind (wpAny_mono h' (fun it' s' h' => wpAny_pure (And.intro rfl h')) fun _ _ x => x))))

/-- the inner clause, turn by turn -/
theorem inner2 {ob : Nat → Ob} {n : Nat} {P : Nat → Value → Prop} {elt t1 it1 : PySem.Expr} {c0 : Comprehension} {scope : Scope} {pos : Pos} {I a : Addr} {cenv : Env} {K : Shared → Prop} {xs₀ : List Value}
    (IO : IterOk prog w A g ob n P) (J : Nat → Heap → List (Addr × Ob) → List Value → Prop) {f₀ : List (Addr × Ob)} (D : Led ι g s ((I, ob 0) :: (a, .list xs₀) :: (f₀ ++ l))) (h0 : J 0 g f₀ xs₀) (hlen : ∀ i g' f ys, i ≤ n → J i g' f ys → ys.length ≤ sizeLine)
    (ht : ∀ v, letOwnedTupleGo t1 (.ref I) v = pure ())
    (turn : ∀ i v g' f ys tl s', i < n → P i v → Sub g g' → J i g' f ys → Led ι g' s' (f ++ tl) →
      wpAny (model prog w) A (assign t1 cenv v) (fun _ s₂ => wpAny (model prog w) A (eval elt cenv) (fun y s₃ => ∃ g'' f', Sub g' g'' ∧ J (i + 1) g'' f' (ys ++ [y]) ∧ Led ι g'' s₃ (f' ++ tl)) (fun _ _ => False) s₂) (fun _ _ => False) s')
    (done : ∀ g' f ys s', Sub g g' → J n g' f ys → Led ι g' s' ((a, .list ys) :: (f ++ l)) → K s') :
    codeAny (model prog w) A (.compLoop (.ListComp elt [c0, ⟨t1, it1, [], 0⟩] scope pos) 1 (.ref I) (.ref a) cenv) (fun r s' => r = .ok .next ∧ K s') s := by
  refine codeAny_loop rfl (fun k s' => ∃ i g' f ys, i ≤ n ∧ k = n + 1 - i ∧ Sub g g' ∧ J i g' f ys ∧ Led ι g' s' ((I, ob i) :: (a, .list ys) :: (f ++ l))) (fun k s' hI => ?_) (n + 1) ⟨0, g, f₀, xs₀, Nat.zero_le _, rfl, Sub.refl g, h0, D⟩
  show wpAny _ _ ((compTurn (.ListComp elt [c0, ⟨t1, it1, [], 0⟩] scope pos) 1 (.ref I) (.ref a) cenv).onRaise (fun x => do noteFrame x cenv; theTreesLotGoes x)) _ _ s'
  refine wpAny_noted ?_
  rw [turn2_1]
  obtain ⟨i, g', f, ys, hi, rfl, hk, hJ, D'⟩ := hI
  by_cases hlt : i < n
  · refine wpAny_bind (wpAny_standAt (wpAny_bind (IO.item i I ι s' g' _ _ _ hk hlt D' fun v s₁ hP D₁ => ?_)))
    refine wpAny_bind (wpAny_of_eq (ht v) ?_)
    have D₂ : Led ι g' s₁ (f ++ ((I, ob (i + 1)) :: (a, .list ys) :: l)) := by
      refine D₁.perm ?_
      have p := List.perm_append_comm (l₁ := f) (l₂ := [(I, ob (i + 1)), (a, .list ys)])
      have p2 := p.append_right l
      rw [List.append_assoc, List.append_assoc] at p2
      exact p2
    refine wpAny_bind (wpAny_mono (turn i v g' f ys _ s₁ hlt hP hk hJ D₂) (fun _ s₂ h₂ => ?_) fun _ _ e => e.elim)
    refine wpAny_bind (wpAny_bind (wpAny_mono h₂ (fun y s₃ h₃ => ?_) fun _ _ e => e.elim))
    obtain ⟨g'', f', hk', hJ', D₃⟩ := h₃
    have D₄ : Led ι g'' s₃ ([(I, ob (i + 1))] ++ (a, .list ys) :: (f' ++ l)) := by
      refine D₃.perm ?_
      have p := List.perm_append_comm (l₁ := [(I, ob (i + 1)), (a, .list ys)]) (l₂ := f')
      have p2 := p.append_right l
      rw [List.append_assoc, List.append_assoc] at p2
      exact p2
    refine wpAny_bind (b_append D₄ (hlen i g' f ys hi hJ) fun s₄ D₅ => wpAny_pure (wpAny_pure ⟨rfl, n + 1 - (i + 1), by omega, i + 1, g'', f', ys ++ [y], hlt, rfl, hk.trans hk', hJ', D₅⟩))
  · have : i = n := by omega
    subst this
    refine wpAny_bind (wpAny_standAt (wpAny_bind (IO.done I ι s' g' _ _ _ hk D' fun s₁ D₁ => ?_)))
    exact wpAny_pure ⟨rfl, done g' f ys s₁ hk hJ D₁⟩

/-- a comprehension of two clauses: the outer one, turn by turn -/
theorem comp2_run {ob : Nat → Ob} {n : Nat} {P : Nat → Value → Prop} {elt t0 it0 t1 it1 : PySem.Expr} {scope : Scope} {cl : List (Str × Addr)} {pos : Pos} {I : Addr} {Q : Value → Shared → Prop}
    (V : EnvIs env L names cells) (IO : IterOk prog w A g ob n P) (J : Nat → Heap → List Value → Prop) (D : Led ι g s ((I, ob 0) :: l)) (h0 : J 0 g []) (hkind : scope.kind = .function)
    (hcell : cellsFrom 0 scope.names [] = []) (hcell' : ∀ n, cellsFrom n scope.names [] = []) (ht : ∀ v, letOwnedTupleGo t0 (.ref I) v = pure ()) (hfold : ∀ cenv x, foldedSetIterable it1 cenv x = pure x)
    (done : ∀ a g' ys s', Sub g g' → J n g' ys → Led ι g' s' ((a, .list ys) :: l) → Q (.ref a) s')
    (turn : ∀ cenv C i v g' ys mc a tl s', EnvIs cenv C (relNames scope.names names) cl → i < n → P i v → Sub g g' → J i g' ys → Led ι g' s' ((C, .ns mc) :: (a, .list ys) :: (l ++ tl)) →
      wpAny (model prog w) A (assign t0 cenv v) (fun _ s₂ => wpAny (model prog w) A (eval it1 cenv) (fun x s₃ => wpAny (model prog w) A (pyIter x) (fun it' s₄ =>
        codeAny (model prog w) A (.compStart (.ListComp elt [⟨t0, it0, [], 0⟩, ⟨t1, it1, [], 0⟩] scope pos) 1 it' (.ref a) cenv)
          (fun r s₅ => r = .ok .next ∧ ∃ g'' mc' ys', Sub g' g'' ∧ J (i + 1) g'' ys' ∧ Led ι g'' s₅ ((C, .ns mc') :: (a, .list ys') :: (l ++ tl))) s₄) (fun _ _ => False) s₃) (fun _ _ => False) s₂) (fun _ _ => False) s') :
    wpAny (model prog w) A (newList []) (fun acc s₃ => wpAny (model prog w) A (newFunctionEnv scope env.globals cl [] env.qual none .none (some env)) (fun cenv s₄ =>
      codeAny (model prog w) A (.compStart (.ListComp elt [⟨t0, it0, [], 0⟩, ⟨t1, it1, [], 0⟩] scope pos) 0 (.ref I) acc { cenv with scope := relabel scope env }) (compPost (model prog w) A E none Q acc cenv.locals) s₄) E s₃) E s := by
  refine n_list D (by exact Nat.zero_le _) fun a s₁ D₁ => ?_
  refine newCompEnv ?_
  generalize hC : s₁.heap.objs.size = C
  have keep : Sub s₁.heap (pushCells (s₁.heap.push { cls := .type "dict", data := .dict #[] }) scope.names) := fun b o e => pushCells_keeps _ _ _ _ (Heap.get?_push_of_some _ e)
  have hCn : (pushCells (s₁.heap.push { cls := .type "dict", data := .dict #[] }) scope.names).Ns C (fun _ => none) := by
    refine ⟨_, #[], _, pushCells_keeps _ _ _ _ (by rw [← hC]; exact Heap.get?_push_size _ rfl), rfl, strKeys_nil, fun _ => rfl⟩
  have D₂ : Led ι g { s₁ with heap := pushCells (s₁.heap.push { cls := .type "dict", data := .dict #[] }) scope.names } ([(C, .ns fun _ => none)] ++ ((I, ob 0) :: (a, .list []) :: l)) := by
    refine Led.news D₁ ⟨rfl, rfl, rfl⟩ keep ?_ ?_ ?_ (Nat.le_refl _)
    · intro p hp
      have := List.mem_singleton.mp hp
      subst this
      show s₁.heap.get? C = none
      rw [← hC]; exact size_none _
    · intro p hp
      have := List.mem_singleton.mp hp
      subst this
      exact hCn
    · simp
  have VC : EnvIs { newEnv scope C env.globals (cellsFrom (C + 1) scope.names cl) env.qual none .none (some env) builtinsNs with scope := relabel scope env } C (relNames scope.names names) cl :=
    ⟨hkind, rfl, relabel_names V scope, by show cellsFrom (C + 1) scope.names cl = cl; rw [cellsFrom_append, hcell']; rfl, V.globals, V.builtins⟩
  generalize ({ newEnv scope C env.globals (cellsFrom (C + 1) scope.names cl) env.qual none .none (some env) builtinsNs with scope := relabel scope env } : Env) = cenv at VC ⊢
  have loop : ∀ s₃, Led ι g s₃ ([(C, .ns fun _ => none)] ++ ((I, ob 0) :: (a, .list []) :: l)) →
      codeAny (model prog w) A (.compLoop (.ListComp elt [⟨t0, it0, [], 0⟩, ⟨t1, it1, [], 0⟩] scope pos) 0 (.ref I) (.ref a) cenv) (compPost (model prog w) A E none Q (.ref a) C) s₃ := by
    intro s₃ D₃
    refine codeAny_loop rfl (fun k s' => ∃ i g' ys mc, i ≤ n ∧ k = n + 1 - i ∧ Sub g g' ∧ J i g' ys ∧ Led ι g' s' ((I, ob i) :: (C, .ns mc) :: (a, .list ys) :: l)) (fun k s' hI => ?_) (n + 1) ⟨0, g, [], fun _ => none, Nat.zero_le _, rfl, Sub.refl g, h0, D₃.perm (List.Perm.swap _ _ _)⟩
    show wpAny _ _ ((compTurn (.ListComp elt [⟨t0, it0, [], 0⟩, ⟨t1, it1, [], 0⟩] scope pos) 0 (.ref I) (.ref a) cenv).onRaise (fun x => do noteFrame x cenv; theTreesLotGoes x)) _ _ s'
    refine wpAny_noted ?_
    rw [turn2_0]
    obtain ⟨i, g', ys, mc, hi, rfl, hk, hJ, D'⟩ := hI
    by_cases hlt : i < n
    · refine wpAny_bind (wpAny_standAt (wpAny_bind (IO.item i I ι s' g' _ _ _ hk hlt D' fun v s₄ hP D₄ => ?_)))
      refine wpAny_bind (wpAny_of_eq (ht v) ?_)
      have D₅ : Led ι g' s₄ ((C, .ns mc) :: (a, .list ys) :: (l ++ [(I, ob (i + 1))])) := by
        refine D₄.perm ?_
        exact List.perm_append_comm (l₁ := (C, .ns mc) :: (a, .list ys) :: l) (l₂ := [(I, ob (i + 1))])
      refine wpAny_bind (wpAny_mono (turn cenv C i v g' ys mc a _ s₄ VC hlt hP hk hJ D₅) (fun _ s₅ h₅ => ?_) fun _ _ e => e.elim)
      refine wpAny_bind (wpAny_mono h₅ (fun x s₆ h₆ => ?_) fun _ _ e => e.elim)
      refine wpAny_bind (wpAny_standAt (wpAny_bind (wpAny_of_eq (hfold cenv x) ?_)))
      refine wpAny_bind (wpAny_holding (wpAny_mono h₆ (fun it' s₇ h₇ => ?_) fun _ _ e => e.elim))
      refine wpAny_bind (wpAny_runOwn (codeAny_mono h₇ fun r s₈ h₈ => ?_))
      obtain ⟨rfl, g'', mc', ys', hk', hJ', D₈⟩ := h₈
      refine wpAny_pure ⟨rfl, n + 1 - (i + 1), by omega, i + 1, g'', ys', mc', hlt, rfl, hk.trans hk', hJ', D₈.perm ?_⟩
      exact (List.perm_append_comm (l₁ := (C, .ns mc') :: (a, .list ys') :: l) (l₂ := [(I, ob (i + 1))])).symm
    · have : i = n := by omega
      subst this
      refine wpAny_bind (wpAny_standAt (wpAny_bind (IO.done I ι s' g' _ _ _ hk D' fun s₄ D₄ => ?_)))
      refine wpAny_pure ?_
      obtain ⟨h1, h2⟩ := Led.loseC (cs := []) D₄
      exact ⟨mc, h1, fun h' hs => done a g' ys _ hk hJ (h2 h' hs)⟩
  have DI : Led ι g { s₁ with heap := pushCells (s₁.heap.push { cls := .type "dict", data := .dict #[] }) scope.names } ((I, ob 0) :: ((C, .ns fun _ => none) :: ((a, .list []) :: l))) := D₂.perm (List.Perm.swap _ _ _)
  exact codeAny_compStart_list (loop _ D₂) (IO.self 0 I ι _ g _ _ _ DI (loop _ D₂))

theorem e_comp2 {elt t0 it0 t1 it1 : PySem.Expr} {scope : Scope} {cl : List (Str × Addr)} {pos : Pos} {Q : Value → Shared → Prop} (V : EnvIs env L names cells) (hcl : clOf cells scope.names [] = some cl) (hkind : scope.kind = .function)
    (hnames : ∀ x ∈ scope.names, x.2 = .local → scope.names.lookup x.1 = some .local) (hs : ∀ x, foldedSetIterable it0 env x = pure x)
    (h : wpAny (model prog w) A (eval it0 env) (fun xv s₁ => wpAny (model prog w) A (pyIter xv) (fun it s₂ => wpAny (model prog w) A (newList []) (fun acc s₃ => wpAny (model prog w) A (newFunctionEnv scope env.globals cl [] env.qual none .none (some env)) (fun cenv s₄ =>
      codeAny (model prog w) A (.compStart (.ListComp elt [⟨t0, it0, [], 0⟩, ⟨t1, it1, [], 0⟩] scope pos) 0 it acc { cenv with scope := relabel scope env }) (compPost (model prog w) A E none Q acc cenv.locals) s₄) E s₃) E s₂) E s₁) E s) :
    wpAny (model prog w) A (eval (.ListComp elt [⟨t0, it0, [], 0⟩, ⟨t1, it1, [], 0⟩] scope pos) env) Q E s := by
  rw [eval_ListComp]
  exact wpAny_comprehension_free (use := none) rfl hs (closure_of V hcl) hkind hnames h
end
end Mine
end

section
open PySem PySem.W PySem.Calls PyProof.Rows PySem.SeqAt
set_option Elab.async false
set_option linter.all false
namespace Mine
noncomputable def cmp3 (j : Nat) (c : Col) : Int := match j with | 0 => c.1 | 1 => c.2.1 | _ => c.2.2
noncomputable def cntN (cs : List Col) (j : Nat) (x : Int) : Nat := cs.countP fun c => decide (x < cmp3 j c)
noncomputable def cnt (cs : List Col) (j : Nat) (x : Int) : Int := (cntN cs j x : Int)
noncomputable def votesOf (cs : List Col) (x : Int) : List Int := [cnt cs 0 x, cnt cs 1 x, cnt cs 2 x]
noncomputable def laysOf (cs : List Col) : List Int → List (Int × List Int)
  | x :: y :: r => (y - x, votesOf cs x) :: laysOf cs (y :: r)
  | _ => []
noncomputable def flat3 (cs : List Col) : List Int := cs.flatMap fun c => [c.1, c.2.1, c.2.2]

theorem laysOf_length (cs : List Col) : ∀ lv : List Int, (laysOf cs lv).length = lv.length - 1
  | [] => rfl
  | [_] => rfl
  | x :: y :: r => by
    have := laysOf_length cs (y :: r)
    simp only [laysOf, List.length_cons] at this ⊢
    omega
theorem laysOf_get (cs : List Col) : ∀ (lv : List Int) (k : Nat) (x y : Int), lv[k]? = some x → lv[k + 1]? = some y → (laysOf cs lv)[k]? = some (y - x, votesOf cs x)
  | [], k, x, y, h, _ => by simp at h
  | [a], k, x, y, h, h' => by cases k <;> simp at h h'
  | a :: b :: r, 0, x, y, h, h' => by
    simp at h h'
    subst h; subst h'; rfl
  | a :: b :: r, k + 1, x, y, h, h' => by
    simp only [laysOf, List.getElem?_cons_succ] at h h' ⊢
    exact laysOf_get cs (b :: r) k x y h h'
theorem votesOf_get (cs : List Col) (x : Int) {j : Nat} (hj : j < 3) : (votesOf cs x)[j]? = some (cnt cs j x) := by
  have : j = 0 ∨ j = 1 ∨ j = 2 := by omega
  rcases this with rfl | rfl | rfl <;> rfl
theorem flat3_take (cs : List Col) {i : Nat} {c : Col} (h : cs[i]? = some c) : flat3 (cs.take (i + 1)) = flat3 (cs.take i) ++ [c.1, c.2.1, c.2.2] := by
  rw [List.take_add_one, h]
  simp [flat3]
theorem flat3_length (cs : List Col) : (flat3 cs).length = 3 * cs.length := by
  induction cs with
  | nil => rfl
  | cons c r ih =>
    simp only [flat3, List.flatMap_cons, List.length_append, List.length_cons, List.length_nil] at ih ⊢
    omega
theorem mem_flat3 {cs : List Col} {x : Int} : x ∈ flat3 cs ↔ ∃ c ∈ cs, x = c.1 ∨ x = c.2.1 ∨ x = c.2.2 := by
  simp [flat3]
theorem cmp3_mem {cs : List Col} {c : Col} (h : c ∈ cs) (j : Nat) : cmp3 j c ∈ flat3 cs := by
  refine mem_flat3.mpr ⟨c, h, ?_⟩
  match j with
  | 0 => exact .inl rfl
  | 1 => exact .inr (.inl rfl)
  | j + 2 => exact .inr (.inr rfl)

/-- the levels so far, of a sorted list's first items -/
structure LevInv (T : Int) (pre lv : List Int) : Prop where
  inc : lv.Pairwise (· < ·)
  head : lv[0]? = some 0
  all : ∀ p ∈ pre, p ∈ lv
  last : ∀ z, lv.getLast? = some z → z = 0 ∨ z ∈ pre
  rng : ∀ x ∈ lv, 0 ≤ x ∧ x ≤ T
  len : lv.length ≤ pre.length + 1

theorem LevInv.start (T : Int) (hT : 0 ≤ T) : LevInv T [] [0] := by
  refine ⟨by simp, rfl, fun _ h => (nomatch h), fun z hz => ?_, fun x hx => ?_, by simp⟩
  · simp at hz; exact .inl hz.symm
  · simp at hx; subst hx; omega
theorem LevInv.ne {T : Int} {pre lv : List Int} (h : LevInv T pre lv) : 0 < lv.length := by
  rcases Nat.eq_zero_or_pos lv.length with e | e
  · have := List.length_eq_zero_iff.mp e
    have h2 := h.head
    rw [this] at h2; simp at h2
  · exact e
theorem pairwise_last {lv : List Int} {z : Int} (h : lv.Pairwise (· < ·)) (hz : lv.getLast? = some z) : ∀ x ∈ lv, x ≤ z := by
  intro x hx
  obtain ⟨ys, rfl⟩ := List.getLast?_eq_some_iff.mp hz
  rcases List.mem_append.mp hx with hx | hx
  · exact Int.le_of_lt ((List.pairwise_append.mp h).2.2 x hx z (by simp))
  · simp at hx; omega
theorem LevInv.grow {T p z : Int} {pre lv : List Int} (h : LevInv T pre lv) (hz : lv.getLast? = some z) (hp : z < p) (hT : 0 ≤ p ∧ p ≤ T) : LevInv T (pre ++ [p]) (lv ++ [p]) := by
  refine ⟨?_, ?_, fun q hq => ?_, fun y hy => ?_, fun x hx => ?_, by simp; exact h.len⟩
  · refine List.pairwise_append.mpr ⟨h.inc, by simp, fun a ha b hb => ?_⟩
    simp at hb; subst hb
    have := pairwise_last h.inc hz a ha
    omega
  · have := h.ne
    rw [List.getElem?_append_left this]; exact h.head
  · rcases List.mem_append.mp hq with hq | hq
    · exact List.mem_append_left _ (h.all q hq)
    · exact List.mem_append_right _ hq
  · simp at hy; subst hy; right; simp
  · rcases List.mem_append.mp hx with hx | hx
    · exact h.rng x hx
    · simp at hx; subst hx; exact hT
theorem LevInv.keep {T p z : Int} {pre lv : List Int} (h : LevInv T pre lv) (hz : lv.getLast? = some z) (hp : ¬ z < p) (hs : ∀ q ∈ pre, q ≤ p) (h0 : 0 ≤ p) : LevInv T (pre ++ [p]) lv := by
  have hzp : z = p := by
    rcases h.last z hz with rfl | hm
    · omega
    · have := hs z hm; omega
  refine ⟨h.inc, h.head, fun q hq => ?_, fun y hy => ?_, h.rng, by have := h.len; simp; omega⟩
  · rcases List.mem_append.mp hq with hq | hq
    · exact h.all q hq
    · simp at hq; subst hq; subst hzp
      exact List.mem_of_getLast? hz
  · rcases h.last y hy with h1 | h1
    · exact .inl h1
    · exact .inr (List.mem_append_left _ h1)

/-- what the levels are in the end -/
structure Levels (T : Int) (cs : List Col) (lv : List Int) : Prop where
  inc : lv.Pairwise (· < ·)
  head : lv[0]? = some 0
  last : lv.getLast? = some T
  all : ∀ c ∈ cs, ∀ j, cmp3 j c ∈ lv
theorem LevInv.levels {T : Int} {cs : List Col} {ms lv : List Int} (h : LevInv T ms lv) (hp : ms.Perm (flat3 cs ++ [T])) : Levels T cs lv := by
  refine ⟨h.inc, h.head, ?_, fun c hc j => h.all _ (hp.mem_iff.mpr (List.mem_append_left _ (cmp3_mem hc j)))⟩
  have hT : T ∈ lv := h.all T (hp.mem_iff.mpr (by simp))
  cases hz : lv.getLast? with
  | none =>
    rw [List.getLast?_eq_none_iff] at hz
    subst hz; cases hT
  | some z =>
    have h1 := pairwise_last h.inc hz T hT
    have h2 := (h.rng z (List.mem_of_getLast? hz)).2
    have : z = T := by omega
    rw [this]

noncomputable def LayAt (g : Heap) (v : Value) (y : Int × List Int) : Prop := ∃ b c t, ∃ zs : List Value, v = .ref b ∧ IsTup g b [.int y.1 t, .ref c].toArray ∧ g.IsList c zs.toArray ∧ IntsAre zs y.2
theorem LayAt.mono {g g' : Heap} {v : Value} {y : Int × List Int} (h : LayAt g v y) (k : Sub g g') : LayAt g' v y := by
  obtain ⟨b, c, t, zs, e, h1, h2, h3⟩ := h
  exact ⟨b, c, t, zs, e, h1.keeps k, h2.at fun o e => k _ _ e, h3⟩
end Mine
end

section
open PySem PySem.W PySem.Calls PyProof.Rows PySem.SeqAt
set_option Elab.async false
set_option maxRecDepth 100000
set_option linter.all false
namespace Mine
section
variable {prog : Program} {w : World} {A : Around} {E : Value → Shared → Prop} {s ι : Shared} {g : Heap} {l : List (Addr × Ob)} {env : Env} {L : Addr} {names : List (Str × NameKind)} {cells : List (Str × Addr)} {m : Str → Option Value}

theorem go_list {target : PySem.Expr} {I a : Addr} {i : Nat} {v : Value} {Q : Unit → Shared → Prop} (D : Led ι g s ((I, .liter a i) :: l)) (h : Q () s) : wpAny (model prog w) A (letOwnedTupleGo target (.ref I) v) Q E s := by
  obtain ⟨o, ho, hc, hd⟩ := D.here (I, .liter a i) (.head _)
  unfold letOwnedTupleGo
  cases target <;> first
    | exact wpAny_pure h
    | (cases v <;> first
        | exact wpAny_pure h
        | (refine wpAny_bind (wpAny_load ho ?_)
           rw [hc, hd]
           exact wpAny_pure h))
theorem go_tup {target : PySem.Expr} {I a : Addr} {i : Nat} {v : Value} {Q : Unit → Shared → Prop} (D : Led ι g s ((I, .titer a i) :: l)) (h : Q () s) : wpAny (model prog w) A (letOwnedTupleGo target (.ref I) v) Q E s := by
  obtain ⟨o, ho, hc, hd⟩ := D.here (I, .titer a i) (.head _)
  unfold letOwnedTupleGo
  cases target <;> first
    | exact wpAny_pure h
    | (cases v <;> first
        | exact wpAny_pure h
        | (refine wpAny_bind (wpAny_load ho ?_)
           rw [hc, hd]
           exact wpAny_pure h))

/-- a loop whose target is a tuple -/
theorem for_iterT {ob : Nat → Ob} {n : Nat} {P : Nat → Value → Prop} {target : PySem.Expr} {body : List Stmt} {Q : Flow → Shared → Prop} (IO : IterOk prog w A g ob n P) (J : Nat → Heap → List (Addr × Ob) → Prop) {f₀ : List (Addr × Ob)} {I : Addr}
    (D : Led ι g s ((I, ob 0) :: (f₀ ++ l))) (h0 : J 0 g f₀)
    (go : ∀ i v s' g' l' (Q : Unit → Shared → Prop), Led ι g' s' ((I, ob i) :: l') → Q () s' → wpAny (model prog w) A (letOwnedTupleGo target (.ref I) v) Q (fun _ _ => False) s')
    (turn : ∀ i v g' f tl s', i < n → P i v → Sub g g' → J i g' f → Led ι g' s' (f ++ tl) →
      wpAny (model prog w) A (assign target env v) (fun _ s₂ => wpAny (model prog w) A (execs body env) (TurnEnd ι (J (i + 1)) g' tl) (fun _ _ => False) s₂) (fun _ _ => False) s')
    (done : ∀ g' f s', Sub g g' → J n g' f → Led ι g' s' (f ++ l) → Q .next s') :
    codeAny (model prog w) A (.forLoop target (.ref I) body [] env) (fun r s' => match r with | .ok fl => Q fl s' | .error e => cameBackBy (model prog w) A env E e s') s := by
  refine codeAny_forLoop_any (fun k s' => ∃ i g' f, i ≤ n ∧ k = n + 1 - i ∧ Sub g g' ∧ J i g' f ∧ Led ι g' s' ((I, ob i) :: (f ++ l))) ?_ (n + 1) ⟨0, g, f₀, Nat.zero_le _, rfl, Sub.refl g, h0, D⟩
  rintro k s' ⟨i, g', f, hi, rfl, hk, hJ, D'⟩
  by_cases hlt : i < n
  · refine IO.item i I ι s' g' _ _ _ hk hlt D' fun v s₁ hP D₁ => ?_
    refine wpAny_mono (go (i + 1) v s₁ g' _ (fun _ s₁' => s₁' = s₁) D₁ rfl) (fun _ s₁' e => ?_) fun _ _ e => e.elim
    subst e
    have D₂ : Led ι g' s₁' (f ++ (I, ob (i + 1)) :: l) := D₁.perm List.perm_middle
    refine wpAny_mono (turn i v g' f _ s₁' hlt hP hk hJ D₂) (fun _ s₂ h₂ => wpAny_mono h₂ (fun fl s₃ h₃ => ?_) fun _ _ e => e.elim) fun _ _ e => e.elim
    obtain ⟨rfl, g'', f', hk', hJ', D₃⟩ := h₃
    exact ⟨n + 1 - (i + 1), by omega, i + 1, g'', f', hlt, rfl, hk.trans hk', hJ', D₃.perm List.perm_middle.symm⟩
  · have : i = n := by omega
    subst this
    exact IO.done I ι s' g' _ _ _ hk D' fun s₁ D₁ => wpAny_execs_nil (done g' f s₁ hk hJ D₁)
end
end Mine
end

section
open PySem PySem.Float64
set_option Elab.async false
set_option maxRecDepth 100000
set_option linter.all false
namespace Mine
/-- else the error is bounded -/
theorem right_errF {r : UInt64} {neg : Bool} {W D k : Nat} (h : Right r neg W D) (hD : 0 < D) (hk : 53 ≤ k) (hk2 : k ≤ 1900) (hW : W ≤ D * (2 ^ 53 * 2 ^ k)) :
    ∃ v : Nat, Rep r (sgn neg v) ∧ Fits v ∧ W ≤ D * v + D * 2 ^ k ∧ D * v ≤ W + D * 2 ^ k := by
  obtain ⟨t, rfl, h1, h2, h3⟩ := h
  have hlt : t < infMag := by
    rcases Nat.lt_or_ge t infMag with h | h
    · exact h
    · exfalso
      have := h2.mp (by omega)
      have e1 : D * ((2 ^ 54 - 1) * 2 ^ 2045) ≤ D * (2 * (2 ^ 53 * 2 ^ k)) := by
        refine Nat.le_trans this ?_
        have := Nat.mul_le_mul_left 2 hW
        rw [← Nat.mul_assoc D 2, Nat.mul_comm D 2, Nat.mul_assoc]; exact this
      have e2 := Nat.le_of_mul_le_mul_left e1 hD
      have e3 : (2 : Nat) ^ k ≤ 2 ^ 1900 := Nat.pow_le_pow_right (by decide) hk2
      have e4 : (2 : Nat) ^ 2045 = 2 ^ 1900 * 2 ^ 145 := by rw [← Nat.pow_add]
      rw [e4] at e2
      have e5 : (2 ^ 54 - 1) * (2 ^ 1900 * 2 ^ 145) = 2 ^ 1900 * ((2 ^ 54 - 1) * 2 ^ 145) := by
        rw [Nat.mul_comm (2 ^ 1900) (2 ^ 145), ← Nat.mul_assoc, Nat.mul_comm]
      rw [e5] at e2
      have e6 : 2 * (2 ^ 53 * 2 ^ k) ≤ 2 ^ 1900 * 2 ^ 54 := by
        have : 2 * (2 ^ 53 * 2 ^ k) = 2 ^ k * 2 ^ 54 := by rw [← Nat.mul_assoc, Nat.mul_comm]
        rw [this]; exact Nat.mul_le_mul_right _ e3
      have e7 := Nat.le_trans e2 e6
      have e8 := Nat.le_of_mul_le_mul_left e7 (Nat.two_pow_pos 1900)
      revert e8
      decide
  obtain ⟨m, e, hd, _⟩ := decode_pack neg hlt
  refine ⟨V t, ⟨⟨_, _, _, hd⟩, val_pack neg hlt⟩, ⟨t, hlt, rfl⟩, ?_⟩
  have hDk : 0 < D * 2 ^ k := Nat.mul_pos hD (Nat.two_pow_pos _)
  have hq : W / (D * 2 ^ k) ≤ 2 ^ 53 := by
    refine Nat.div_le_of_le_mul ?_
    calc W ≤ D * (2 ^ 53 * 2 ^ k) := hW
      _ = D * 2 ^ k * 2 ^ 53 := by rw [Nat.mul_comm (2 ^ 53), Nat.mul_assoc]
  obtain ⟨t', ht', hv'⟩ := fits_pow (k := k) hq hk (by omega)
  have h0 := (h3 hlt t').1
  rw [hv'] at h0
  have hdiv := Nat.div_add_mod W (D * 2 ^ k)
  have hmod := Nat.mod_lt W hDk
  have e1 : D * (W / (D * 2 ^ k) * 2 ^ k) = D * 2 ^ k * (W / (D * 2 ^ k)) := by
    rw [Nat.mul_comm (W / (D * 2 ^ k)), Nat.mul_assoc]
  rw [e1] at h0
  unfold dist at h0
  generalize D * 2 ^ k * (W / (D * 2 ^ k)) = X at *
  generalize D * V t = Y at *
  generalize D * 2 ^ k = Z at *
  omega


noncomputable def pw (k : Nat) : Int := ((2 ^ k : Nat) : Int)
theorem pw_pos (k : Nat) : 0 < pw k := Int.ofNat_lt.mpr (Nat.two_pow_pos _)
theorem pw_add (a b : Nat) : pw (a + b) = pw a * pw b := by unfold pw; rw [Nat.pow_add, Int.natCast_mul]
theorem one_pw : one' = pw 1074 := rfl

theorem sgn_natAbs {a : Bool} {n : Nat} : (sgn a n).natAbs = n := by unfold sgn; cases a <;> simp
theorem div_near {x y : UInt64} {p q : Int} {k : Nat} (hx : Rep x p) (hy : Rep y q) (hq : 0 < q) (hk : 53 ≤ k) (hk2 : k ≤ 1900) (hW : p.natAbs * 2 ^ 1074 ≤ q.natAbs * (2 ^ 53 * 2 ^ k)) :
    ∃ z, Rep (div x y) z ∧ Fits z.natAbs ∧ z * q ≤ p * one' + q * pw k ∧ p * one' ≤ z * q + q * pw k ∧ (0 ≤ p → 0 ≤ z) ∧ (p ≤ 0 → z ≤ 0) := by
  obtain ⟨⟨a, m, e, h1⟩, hp⟩ := hx
  obtain ⟨⟨b, n, f, h2⟩, hq'⟩ := hy
  have v1 := val_eq h1
  have v2 := val_eq h2
  rw [hp] at v1; rw [hq'] at v2
  have hb : b = false := by
    cases b with
    | false => rfl
    | true => unfold sgn at v2; simp only [if_true] at v2; omega
  subst hb
  have hn : n ≠ 0 := by
    rintro rfl
    unfold sgn at v2; simp at v2; omega
  have r := div_right h1 h2 hn
  rw [hp, hq'] at r
  have hs : (a != false) = a := by cases a <;> rfl
  rw [hs] at r
  have hD : 0 < q.natAbs := by omega
  have hpk := pw_pos k
  by_cases h0 : p = 0
  · subst h0
    have := right_exact (W := 0) (D := q.natAbs) (N := 0) (by simpa using r) hD fits_zero
    have e0 : sgn a 0 = 0 := by unfold sgn; cases a <;> rfl
    rw [e0] at this
    have : 0 ≤ q * pw k := Int.mul_nonneg (by omega) (by omega)
    refine ⟨0, by assumption, fits_zero, ?_, ?_, fun _ => Int.le_refl _, fun _ => Int.le_refl _⟩ <;> simp <;> omega
  · obtain ⟨v, hv, hf, g1, g2⟩ := right_errF r hD hk hk2 hW
    refine ⟨sgn a v, hv, by rw [sgn_natAbs]; exact hf, ?_⟩
    have hqa : ((q.natAbs : Nat) : Int) = q := by omega
    have c1 := Int.ofNat_le.mpr g1
    have c2 := Int.ofNat_le.mpr g2
    simp only [Int.natCast_add, Int.natCast_mul, hqa] at c1 c2
    change _ ≤ q * (v : Int) + q * pw k at c1
    change q * (v : Int) ≤ _ + q * pw k at c2
    change ((p.natAbs : Nat) : Int) * one' ≤ _ at c1
    change _ ≤ ((p.natAbs : Nat) : Int) * one' + _ at c2
    rw [Int.mul_comm q (v : Int)] at c1 c2
    cases a with
    | false =>
      have hpa : ((p.natAbs : Nat) : Int) = p := by unfold sgn at v1; simp only [Bool.false_eq_true, if_false] at v1; omega
      rw [hpa] at c1 c2
      show (v : Int) * q ≤ _ ∧ _ ≤ (v : Int) * q + _ ∧ (0 ≤ p → (0 : Int) ≤ (v : Int)) ∧ (p ≤ 0 → (v : Int) ≤ 0)
      exact ⟨c2, c1, fun _ => Int.natCast_nonneg _, fun h => by omega⟩
    | true =>
      have hpa : ((p.natAbs : Nat) : Int) = -p := by unfold sgn at v1; simp only [if_true] at v1; omega
      rw [hpa, Int.neg_mul] at c1 c2
      show -(v : Int) * q ≤ _ ∧ _ ≤ -(v : Int) * q + _ ∧ (0 ≤ p → (0 : Int) ≤ -(v : Int)) ∧ (p ≤ 0 → -(v : Int) ≤ 0)
      rw [Int.neg_mul]
      exact ⟨by omega, by omega, fun h => by omega, fun _ => by omega⟩

theorem right_near {r : UInt64} {z : Int} {k : Nat} (h : Right r (decide (z < 0)) z.natAbs 1) (hk : 53 ≤ k) (hk2 : k ≤ 1900) (hW : z.natAbs ≤ 2 ^ 53 * 2 ^ k) (hz : z ≠ 0) : ∃ y, Rep r y ∧ Fits y.natAbs ∧ y ≤ z + pw k ∧ z ≤ y + pw k := by
  obtain ⟨v, hv, hf, g1, g2⟩ := right_errF h (by decide) hk hk2 (by rw [Nat.one_mul]; exact hW)
  refine ⟨_, hv, by rw [sgn_natAbs]; exact hf, ?_⟩
  rw [Nat.one_mul, Nat.one_mul] at g1 g2
  have e : pw k = ((2 ^ k : Nat) : Int) := rfl
  rw [e]
  generalize (2 : Nat) ^ k = K at *
  unfold sgn
  by_cases h' : z < 0
  · rw [decide_eq_true h', if_pos rfl]; omega
  · rw [decide_eq_false h', if_neg (by decide)]; omega
theorem add_near {x y : UInt64} {p q : Int} {k : Nat} (hx : Rep x p) (hy : Rep y q) (hk : 53 ≤ k) (hk2 : k ≤ 1900) (hW : (p + q).natAbs ≤ 2 ^ 53 * 2 ^ k) : ∃ z, Rep (add x y) z ∧ Fits z.natAbs ∧ z ≤ p + q + pw k ∧ p + q ≤ z + pw k := by
  obtain ⟨⟨a, m, e, h1⟩, rfl⟩ := hx
  obtain ⟨⟨b, n, f, h2⟩, rfl⟩ := hy
  obtain ⟨z1, z2⟩ := add_right h1 h2
  have := pw_pos k
  by_cases h : val x + val y = 0
  · rw [z1 h, h]; exact ⟨0, zero_rep _, fits_zero, by omega, by omega⟩
  · exact right_near (z2 h) hk hk2 hW h
theorem sub_near {x y : UInt64} {p q : Int} {k : Nat} (hx : Rep x p) (hy : Rep y q) (hk : 53 ≤ k) (hk2 : k ≤ 1900) (hW : (p - q).natAbs ≤ 2 ^ 53 * 2 ^ k) : ∃ z, Rep (sub x y) z ∧ Fits z.natAbs ∧ z ≤ p - q + pw k ∧ p - q ≤ z + pw k := by
  obtain ⟨⟨a, m, e, h1⟩, rfl⟩ := hx
  obtain ⟨⟨b, n, f, h2⟩, rfl⟩ := hy
  obtain ⟨z1, z2⟩ := sub_right h1 h2
  have := pw_pos k
  by_cases h : val x - val y = 0
  · rw [z1 h, h]; exact ⟨0, zero_rep _, fits_zero, by omega, by omega⟩
  · exact right_near (z2 h) hk hk2 hW h
theorem mul_near {x y : UInt64} {p j : Int} {k : Nat} (hx : Rep x p) (hy : Rep y (j * one')) (hp : 0 ≤ p) (hj : 0 < j) (hk : 53 ≤ k) (hk2 : k ≤ 1900) (hW : (p * j).natAbs ≤ 2 ^ 53 * 2 ^ k) : ∃ z, Rep (mul x y) z ∧ z ≤ p * j + pw k ∧ p * j ≤ z + pw k ∧ 0 ≤ z := by
  have hpk := pw_pos k
  by_cases h0 : p = 0
  · subst h0
    obtain ⟨⟨a, m, e, h1⟩, h3⟩ := hx
    obtain ⟨⟨b, n, f, h2⟩, h4⟩ := hy
    have r := mul_right h1 h2
    rw [h3] at r
    have := right_exact (W := 0) (D := 2 ^ 1074) (N := 0) (by simpa using r) (Nat.two_pow_pos _) fits_zero
    have e0 : sgn (a != b) 0 = 0 := by unfold sgn; cases (a != b) <;> rfl
    rw [e0] at this
    exact ⟨0, this, by simp; omega, by simp; omega, Int.le_refl _⟩
  · obtain ⟨⟨a, m, e, h1⟩, h3⟩ := hx
    obtain ⟨⟨b, n, f, h2⟩, h4⟩ := hy
    have v1 := val_eq h1
    have v2 := val_eq h2
    rw [h3] at v1; rw [h4] at v2
    have ho := Int.mul_pos hj one_pos
    have ha : a = false := by
      cases a with
      | false => rfl
      | true => unfold sgn at v1; simp only [if_true] at v1; omega
    have hb : b = false := by
      cases b with
      | false => rfl
      | true => unfold sgn at v2; simp only [if_true] at v2; omega
    subst ha hb
    have r := mul_right h1 h2
    rw [h3, h4] at r
    have e1 : p.natAbs * (j * one').natAbs = 2 ^ 1074 * (p * j).natAbs := by
      rw [Int.natAbs_mul, Int.natAbs_mul, ← Nat.mul_assoc, Nat.mul_comm]; rfl
    rw [e1] at r
    obtain ⟨v, hv, hf, g1, g2⟩ := right_errF r (Nat.two_pow_pos _) hk hk2 (Nat.mul_le_mul_left _ hW)
    rw [← Nat.mul_add] at g1 g2
    have g1' := Nat.le_of_mul_le_mul_left g1 (Nat.two_pow_pos _)
    have g2' := Nat.le_of_mul_le_mul_left g2 (Nat.two_pow_pos _)
    have hpj : 0 ≤ p * j := Int.mul_nonneg hp (by omega)
    refine ⟨(v : Int), hv, ?_, ?_, Int.natCast_nonneg _⟩
    · show _ ≤ p * j + ((2 ^ k : Nat) : Int)
      generalize (2 : Nat) ^ k = K at *
      omega
    · show _ ≤ (v : Int) + ((2 ^ k : Nat) : Int)
      generalize (2 : Nat) ^ k = K at *
      omega

theorem notZero {y : UInt64} {q : Int} (hy : Rep y q) (hq : q ≠ 0) : isZero y = false := by
  obtain ⟨⟨b, n, f, h2⟩, h4⟩ := hy
  have v2 := val_eq h2
  unfold isZero
  rw [h2]
  cases n with
  | zero => exfalso; apply hq; rw [← h4, v2]; unfold sgn; cases b <;> simp
  | succ n => rfl
theorem isZero_of {y : UInt64} (hy : Rep y 0) : isZero y = true := by
  obtain ⟨⟨b, n, f, h2⟩, h4⟩ := hy
  have v2 := val_eq h2
  rw [h4] at v2
  unfold isZero
  rw [h2]
  cases n with
  | zero => rfl
  | succ n =>
    exfalso
    have := congrArg Int.natAbs v2
    rw [sgn_natAbs] at this
    have hp : 0 < (n + 1) * 2 ^ (f + 1074).toNat := Nat.mul_pos (by omega) (Nat.two_pow_pos _)
    have this : (0 : Nat) = (n + 1) * 2 ^ (f + 1074).toNat := this
    omega
theorem trunc_rep {x : UInt64} {z : Int} {n : Nat} (hx : Rep x z) (h1 : (n : Int) * one' ≤ z) (h2 : z < ((n : Int) + 1) * one') (h3 : 0 < z) : ∃ a m e, decode x = .fin a m e ∧ truncOf a m e = n := by
  obtain ⟨⟨a, m, e, hd⟩, hz⟩ := hx
  have v := val_eq hd
  rw [hz] at v
  have ha : a = false := by
    cases a with
    | false => rfl
    | true => unfold sgn at v; simp only [if_true] at v; omega
  subst ha
  refine ⟨_, _, _, hd, ?_⟩
  have hge := decode_ge hd
  have v' : z = ((m * 2 ^ (e + 1074).toNat : Nat) : Int) := v
  have h1' : n * 2 ^ 1074 ≤ m * 2 ^ (e + 1074).toNat := by
    have : (n : Int) * one' = ((n * 2 ^ 1074 : Nat) : Int) := by rw [Int.natCast_mul]; rfl
    rw [this, v'] at h1
    exact Int.ofNat_le.mp h1
  have h2' : m * 2 ^ (e + 1074).toNat < (n + 1) * 2 ^ 1074 := by
    have : ((n : Int) + 1) * one' = (((n + 1) * 2 ^ 1074 : Nat) : Int) := by rw [Int.natCast_mul]; rfl
    rw [this, v'] at h2
    exact Int.ofNat_lt.mp h2
  unfold truncOf floorOf
  simp only [Bool.false_eq_true, if_false]
  by_cases he : e ≥ 0
  · rw [if_pos he]
    have e1 : (e + 1074).toNat = e.toNat + 1074 := by omega
    rw [e1, Nat.pow_add, ← Nat.mul_assoc] at h1' h2'
    have a1 := Nat.le_of_mul_le_mul_right h1' (Nat.two_pow_pos 1074)
    have a2 := Nat.lt_of_mul_lt_mul_right h2'
    show (m : Int) * 2 ^ e.toNat = n
    have : ((m * 2 ^ e.toNat : Nat) : Int) = n := by omega
    rw [← this, Int.natCast_mul, Int.natCast_pow]; rfl
  · rw [if_neg he]
    have e1 : 2 ^ 1074 = 2 ^ (-e).toNat * 2 ^ (e + 1074).toNat := by rw [← Nat.pow_add]; congr 1; omega
    rw [e1, ← Nat.mul_assoc] at h1' h2'
    have a1 := Nat.le_of_mul_le_mul_right h1' (Nat.two_pow_pos _)
    have a2 : m < (n + 1) * 2 ^ (-e).toNat := Nat.lt_of_mul_lt_mul_right (a := 2 ^ (e + 1074).toNat) h2'
    show (m : Int).fdiv (2 ^ (-e).toNat) = n
    have e2 : (2 : Int) ^ (-e).toNat = ((2 ^ (-e).toNat : Nat) : Int) := by rw [Int.natCast_pow]; rfl
    rw [e2, Int.fdiv_eq_ediv_of_nonneg _ (Int.natCast_nonneg _), ← Int.natCast_ediv]
    congr 1
    exact Nat.div_eq_of_lt_le a1 a2
end Mine
end

section
open PySem PySem.Float64
set_option Elab.async false
set_option maxRecDepth 100000
set_option linter.all false
namespace Mine
noncomputable abbrev f1 : UInt64 := 0x3ff0000000000000
theorem fmod_one {x : UInt64} {z : Int} (hx : Rep x z) (hf : Fits z.natAbs) (h1 : -one' < z) (h2 : z < one') : Rep (fmod x f1) z := by
  obtain ⟨⟨a, m, e, hd⟩, hz⟩ := hx
  have v := val_eq hd
  rw [hz] at v
  have hge := decode_ge hd
  have h1d : decode f1 = .fin false 4503599627370496 (-52) := by kernel_rfl
  have hm : z.natAbs = m * 2 ^ (e + 1074).toNat := by rw [v, sgn_natAbs]
  have hlt : m * 2 ^ (e + 1074).toNat < 2 ^ 1074 := by
    rw [← hm]
    have : one' = ((2 ^ 1074 : Nat) : Int) := rfl
    rw [this] at h1 h2
    generalize (2 : Nat) ^ 1074 = O at *
    omega
  have key : fmod x f1 = ofBin a (m * 2 ^ (e - min e (-52)).toNat) (min e (-52)) := by
    unfold fmod
    rw [hd, h1d]
    simp only [align, sgn, Bool.false_eq_true, if_false, Int.toNat_natCast]
    rw [if_neg (by decide)]
    congr 1
    refine Nat.mod_eq_of_lt ?_
    have e1 : (e + 1074).toNat = (e - min e (-52)).toNat + (min e (-52) + 1074).toNat := by omega
    have e2 : (2 : Nat) ^ 1074 = 4503599627370496 * 2 ^ (-52 - min e (-52)).toNat * 2 ^ (min e (-52) + 1074).toNat := by
      have : (4503599627370496 : Nat) = 2 ^ 52 := by decide
      rw [this, ← Nat.pow_add, ← Nat.pow_add]
      congr 1; omega
    rw [e1, Nat.pow_add, ← Nat.mul_assoc, e2] at hlt
    exact Nat.lt_of_mul_lt_mul_right hlt
  rw [key]
  have r := ofBin_right (neg := a) (M := m * 2 ^ (e - min e (-52)).toNat) (g := min e (-52)) (by omega)
  have e3 : m * 2 ^ (e - min e (-52)).toNat * 2 ^ (min e (-52) + 1074).toNat = z.natAbs := by
    rw [hm, Nat.mul_assoc, ← Nat.pow_add]; congr 2; omega
  rw [e3] at r
  have := right_exact (W := 0) (D := 1) (N := z.natAbs) (by rw [Nat.one_mul]; exact r) (by decide) hf
  have e4 : sgn a z.natAbs = z := by rw [hm, ← v]
  rwa [e4] at this
theorem mod_one {x : UInt64} {z : Int} (hx : Rep x z) (hf : Fits z.natAbs) (h1 : -one' < z) (h2 : z < one') :
    (0 ≤ z → Rep (divmod x f1).snd z) ∧ (z < 0 → (divmod x f1).snd = add (fmod x f1) f1) := by
  have hm := fmod_one hx hf h1 h2
  have e : (divmod x f1).snd = if isZero (fmod x f1) then copysign (zero false) f1 else if lt f1 (zero false) != lt (fmod x f1) (zero false) then add (fmod x f1) f1 else fmod x f1 := by
    unfold divmod
    simp only
    split
    · rfl
    · split <;> rfl
  have hl : lt f1 (zero false) = false := by decide +kernel
  have hl2 : lt (fmod x f1) (zero false) = decide (z < 0) := lt_rep hm (zero_rep false)
  rw [e, hl, hl2]
  constructor
  · intro h
    by_cases h0 : z = 0
    · subst h0
      rw [if_pos (isZero_of hm)]
      have : copysign (zero false) f1 = zero false := by decide +kernel
      rw [this]; exact zero_rep false
    · rw [notZero hm h0, if_neg (by decide), decide_eq_false (by omega), if_neg (by decide)]
      exact hm
  · intro h
    rw [notZero hm (by omega), if_neg (by decide), decide_eq_true h, if_pos (by decide)]

/-- the hue before it is turned round, and after -/
noncomputable def hueRaw (r g b m rg : UInt64) : UInt64 :=
  if cmp r m == some Ordering.eq then sub (div (sub m b) rg) (div (sub m g) rg)
  else if cmp g m == some Ordering.eq then sub (add 0x4000000000000000 (div (sub m r) rg)) (div (sub m b) rg)
  else sub (add 0x4010000000000000 (div (sub m g) rg)) (div (sub m r) rg)
noncomputable def hueB (r g b m rg : UInt64) : UInt64 := (divmod (div (hueRaw r g b m rg) 0x4018000000000000) f1).snd
noncomputable def hueN (R G B M P : Int) : Int := if R = M then (M - B) - (M - G) else if G = M then 2 * P + (M - R) - (M - B) else 4 * P + (M - G) - (M - R)

theorem ep_one : one' = 9007199254740992 * pw 1021 := by rw [one_pw, show (1074 : Nat) = 53 + 1021 from rfl, pw_add]; rfl
theorem pw2 (n k : Nat) (h : n = 1021 + k) : pw n = pw 1021 * pw k := by subst h; exact pw_add _ _

theorem part_near {x y : UInt64} {A P U : Int} (hx : Rep x (A * U)) (hy : Rep y (P * U)) (hU : 0 < U) (hA : 0 ≤ A) (hP : A ≤ P) (hP0 : 0 < P) :
    ∃ z, Rep (div x y) z ∧ z * P ≤ A * one' + P * pw 1021 ∧ A * one' ≤ z * P + P * pw 1021 ∧ 0 ≤ z ∧ z ≤ one' + pw 1021 := by
  have hAU : 0 ≤ A * U := Int.mul_nonneg hA (by omega)
  have hPU : 0 < P * U := Int.mul_pos hP0 hU
  obtain ⟨z, hz, _, g1, g2, g3, _⟩ := div_near (k := 1021) hx hy hPU (by decide) (by decide) (by
    have e : (2 : Nat) ^ 53 * 2 ^ 1021 = 2 ^ 1074 := by rw [← Nat.pow_add]
    rw [e]
    refine Nat.mul_le_mul_right _ ?_
    have := Int.mul_le_mul_of_nonneg_right hP (Int.le_of_lt hU)
    omega)
  have r1 : z * P ≤ A * one' + P * pw 1021 := by
    have e1 : z * (P * U) = z * P * U := by rw [Int.mul_assoc]
    have e2 : A * U * one' + P * U * pw 1021 = (A * one' + P * pw 1021) * U := by
      rw [Int.add_mul, Int.mul_assoc A U, Int.mul_comm U, Int.mul_assoc P U, Int.mul_comm U (pw 1021), Int.mul_assoc, Int.mul_assoc]
    rw [e1, e2] at g1
    exact Int.le_of_mul_le_mul_right g1 hU
  have r2 : A * one' ≤ z * P + P * pw 1021 := by
    have e1 : A * U * one' = A * one' * U := by rw [Int.mul_assoc, Int.mul_comm U, Int.mul_assoc]
    have e2 : z * (P * U) + P * U * pw 1021 = (z * P + P * pw 1021) * U := by
      rw [Int.add_mul, Int.mul_assoc z P U, Int.mul_assoc P U, Int.mul_comm U (pw 1021), Int.mul_assoc]
    rw [e1, e2] at g2
    exact Int.le_of_mul_le_mul_right g2 hU
  refine ⟨z, hz, r1, r2, g3 hAU, ?_⟩
  have h3 : A * one' ≤ P * one' := Int.mul_le_mul_of_nonneg_right hP (Int.le_of_lt one_pos)
  have h4 : z * P ≤ (one' + pw 1021) * P := by
    rw [Int.add_mul, Int.mul_comm one', Int.mul_comm (pw 1021)]; omega
  exact Int.le_of_mul_le_mul_right h4 hP0
theorem rep_fun {x : UInt64} {p q : Int} (h : Rep x p) (h' : Rep x q) : p = q := h.2.symm.trans h'.2
theorem div_same {x x' y : UInt64} {p q z : Int} (hx : Rep x p) (hx' : Rep x' p) (hy : Rep y q) (hp : 0 ≤ p) (hq : 0 < q) (h : Rep (div x y) z) : Rep (div x' y) z := by
  obtain ⟨⟨a, m, e, h1⟩, h3⟩ := hx
  obtain ⟨⟨a', m', e', h1'⟩, h3'⟩ := hx'
  obtain ⟨⟨b, n, f, h2⟩, h4⟩ := hy
  have hn : n ≠ 0 := by
    rintro rfl
    have v := val_eq h2
    rw [h4] at v
    unfold sgn at v; cases b <;> simp at v <;> omega
  have r := div_right h1 h2 hn
  have r' := div_right h1' h2 hn
  rw [h3, h4] at r
  rw [h3', h4] at r'
  by_cases h0 : p = 0
  · subst h0
    have s1 := right_exact (W := 0) (D := q.natAbs) (N := 0) (by simpa using r) (by omega) fits_zero
    have s2 := right_exact (W := 0) (D := q.natAbs) (N := 0) (by simpa using r') (by omega) fits_zero
    have e0 : ∀ c, sgn c 0 = 0 := by intro c; unfold sgn; cases c <;> rfl
    rw [e0] at s1 s2
    rw [rep_fun h s1]; exact s2
  · have ha : ∀ {y : UInt64} {a : Bool} {m : Nat} {e : Int}, decode y = .fin a m e → val y = p → a = false := by
      intro y a m e hd hv
      have v := val_eq hd
      rw [hv] at v
      cases a with
      | false => rfl
      | true => unfold sgn at v; simp only [if_true] at v; omega
    rw [ha h1 h3] at r
    rw [ha h1' h3'] at r'
    exact right_unique r r' (by omega) h
theorem rep2 : Rep 0x4000000000000000 (2 * one') := by
  have e : (0x4000000000000000 : UInt64) = ofInt 2 := by decide +kernel
  rw [e]; exact rep_int (by decide)
theorem rep4 : Rep 0x4010000000000000 (4 * one') := by
  have e : (0x4010000000000000 : UInt64) = ofInt 4 := by decide +kernel
  rw [e]; exact rep_int (by decide)
theorem rep6 : Rep 0x4018000000000000 (6 * one') := by
  have e : (0x4018000000000000 : UInt64) = ofInt 6 := by decide +kernel
  rw [e]; exact rep_int (by decide)

theorem natAbs_pw {z : Int} {k : Nat} (h1 : z ≤ 9007199254740992 * pw k) (h2 : -(9007199254740992 * pw k) ≤ z) : z.natAbs ≤ 2 ^ 53 * 2 ^ k := by
  have : ((2 ^ 53 * 2 ^ k : Nat) : Int) = 9007199254740992 * pw k := by rw [Int.natCast_mul]; rfl
  omega
structure HueIn (r g b m rg : UInt64) (R G B M P U : Int) : Prop where
  r : Rep r (R * U)
  g : Rep g (G * U)
  b : Rep b (B * U)
  m : Rep m (M * U)
  rg : Rep rg (P * U)
  U0 : 0 < U
  fit : ∀ A : Int, A.natAbs ≤ 2 ^ 53 → Fits (A * U).natAbs
  P0 : 0 < P
  P1 : P ≤ 2 ^ 20
  R0 : 0 ≤ M - R ∧ M - R ≤ P
  G0 : 0 ≤ M - G ∧ M - G ≤ P
  B0 : 0 ≤ M - B ∧ M - B ≤ P
variable {r g b m rg : UInt64} {R G B M P U : Int}
theorem HueIn.sub_m (H : HueIn r g b m rg R G B M P U) {x : UInt64} {X : Int} (hx : Rep x (X * U)) (h : 0 ≤ M - X ∧ M - X ≤ P) : Rep (sub m x) ((M - X) * U) := by
  have := H.P1
  have := sub_rep H.m hx (by rw [← Int.sub_mul]; exact H.fit _ (by omega))
  rwa [← Int.sub_mul] at this
theorem eq_U {X Y U : Int} (hU : 0 < U) : (X * U = Y * U) ↔ X = Y := ⟨fun h => Int.eq_of_mul_eq_mul_right (by omega) h, fun h => by rw [h]⟩
theorem raw_near (H : HueIn r g b m rg R G B M P U) : ∃ z, Rep (hueRaw r g b m rg) z ∧ z * P ≤ hueN R G B M P * one' + 18 * (P * pw 1021) ∧ hueN R G B M P * one' ≤ z * P + 18 * (P * pw 1021) ∧ (hueN R G B M P = 0 → z = 0) := by
  have ho := ep_one
  have he := pw_pos 1021
  have hP := H.P0
  have hmul : ∀ {a b c : Int}, a ≤ b + c → a * P ≤ b * P + P * c := by
    intro a b c h
    have := Int.mul_le_mul_of_nonneg_right h (Int.le_of_lt hP)
    rwa [Int.add_mul, Int.mul_comm c] at this
  have k2 : pw 1022 = 2 * pw 1021 := by rw [pw2 1022 1 rfl, Int.mul_comm]; rfl
  have k8 : pw 1024 = 8 * pw 1021 := by rw [pw2 1024 3 rfl, Int.mul_comm]; rfl
  have q2 : P * pw 1022 = 2 * (P * pw 1021) := by rw [k2, ← Int.mul_assoc, Int.mul_comm P 2, Int.mul_assoc]
  have q8 : P * pw 1024 = 8 * (P * pw 1021) := by rw [k8, ← Int.mul_assoc, Int.mul_comm P 8, Int.mul_assoc]
  obtain ⟨zr, hzr, r1, r2, r3, r4⟩ := part_near (H.sub_m H.r H.R0) H.rg H.U0 H.R0.1 H.R0.2 hP
  obtain ⟨zg, hzg, g1, g2, g3, g4⟩ := part_near (H.sub_m H.g H.G0) H.rg H.U0 H.G0.1 H.G0.2 hP
  obtain ⟨zb, hzb, b1, b2, b3, b4⟩ := part_near (H.sub_m H.b H.B0) H.rg H.U0 H.B0.1 H.B0.2 hP
  unfold hueRaw hueN
  rw [eq_rep H.r H.m, eq_rep H.g H.m]
  have hPe : 0 < P * pw 1021 := Int.mul_pos hP he
  by_cases h1 : R = M
  · rw [decide_eq_true (by rw [h1]), if_pos rfl, if_pos h1]
    by_cases hbg : B = G
    · subst hbg
      have := div_same (H.sub_m H.b H.B0) (H.sub_m H.g H.G0) H.rg (Int.mul_nonneg H.B0.1 (Int.le_of_lt H.U0)) (Int.mul_pos hP H.U0) hzb
      have e : zb = zg := rep_fun this hzg
      have hs := sub_rep hzb hzg (by rw [e, Int.sub_self]; exact fits_zero)
      rw [e, Int.sub_self] at hs
      refine ⟨0, hs, ?_, ?_, fun _ => rfl⟩ <;> simp <;> omega
    · obtain ⟨z, hz, _, s1, s2⟩ := sub_near (k := 1022) hzb hzg (by decide) (by decide) (natAbs_pw (by omega) (by omega))
      have t1 := hmul s1
      have t2 := hmul s2
      rw [Int.sub_mul] at t1 t2
      refine ⟨z, hz, ?_, ?_, fun h => absurd h (by omega)⟩
      · rw [Int.sub_mul]; omega
      · rw [Int.sub_mul]; omega
  · rw [decide_eq_false (by rw [eq_U H.U0]; exact h1), if_neg (by decide), if_neg h1]
    by_cases h2 : G = M
    · rw [decide_eq_true (by rw [h2]), if_pos rfl, if_pos h2]
      obtain ⟨y, hy, _, y1, y2⟩ := add_near (k := 1024) rep2 hzr (by decide) (by decide) (natAbs_pw (by omega) (by omega))
      obtain ⟨z, hz, _, s1, s2⟩ := sub_near (k := 1024) hy hzb (by decide) (by decide) (natAbs_pw (by omega) (by omega))
      have t1 := hmul s1
      have t2 := hmul s2
      have u1 := hmul y1
      have u2 := hmul y2
      rw [Int.sub_mul] at t1 t2
      rw [Int.add_mul] at u1 u2
      have e : 2 * one' * P = 2 * P * one' := by rw [Int.mul_assoc, Int.mul_comm one', Int.mul_assoc]
      refine ⟨z, hz, ?_, ?_, fun h => ?_⟩
      · rw [Int.sub_mul, Int.add_mul]; omega
      · rw [Int.sub_mul, Int.add_mul]; omega
      · have := H.R0; have := H.B0; omega
    · rw [decide_eq_false (by rw [eq_U H.U0]; exact h2), if_neg (by decide), if_neg h2]
      obtain ⟨y, hy, _, y1, y2⟩ := add_near (k := 1024) rep4 hzg (by decide) (by decide) (natAbs_pw (by omega) (by omega))
      obtain ⟨z, hz, _, s1, s2⟩ := sub_near (k := 1024) hy hzr (by decide) (by decide) (natAbs_pw (by omega) (by omega))
      have t1 := hmul s1
      have t2 := hmul s2
      have u1 := hmul y1
      have u2 := hmul y2
      rw [Int.sub_mul] at t1 t2
      rw [Int.add_mul] at u1 u2
      have e : 4 * one' * P = 4 * P * one' := by rw [Int.mul_assoc, Int.mul_comm one', Int.mul_assoc]
      refine ⟨z, hz, ?_, ?_, fun h => ?_⟩
      · rw [Int.sub_mul, Int.add_mul]; omega
      · rw [Int.sub_mul, Int.add_mul]; omega
      · have := H.R0; have := H.G0; omega
end Mine
end

section
open PySem PySem.Float64
set_option Elab.async false
set_option maxRecDepth 100000
set_option linter.all false
namespace Mine
variable {r g b m rg : UInt64} {R G B M P U : Int}
noncomputable def hueT (R G B M P : Int) : Int := if hueN R G B M P < 0 then hueN R G B M P + 6 * P else hueN R G B M P
theorem hueN_bounds (H : HueIn r g b m rg R G B M P U) : -P ≤ hueN R G B M P ∧ hueN R G B M P ≤ 5 * P := by
  have := H.R0; have := H.G0; have := H.B0; have := H.P0
  unfold hueN
  split
  · omega
  · split <;> omega
theorem hue_near (H : HueIn r g b m rg R G B M P U) : ∃ z, Rep (hueB r g b m rg) z ∧ 0 ≤ z ∧ z ≤ one' + pw 1021 ∧ 6 * (z * P) ≤ hueT R G B M P * one' + 36 * (P * pw 1021) ∧ hueT R G B M P * one' ≤ 6 * (z * P) + 36 * (P * pw 1021) := by
  obtain ⟨z0, hz0, a1, a2, a3⟩ := raw_near H
  obtain ⟨n1, n2⟩ := hueN_bounds H
  have ho := ep_one
  have he := pw_pos 1021
  have hP := H.P0
  have hP1 := H.P1
  have hPe : 0 < P * pw 1021 := Int.mul_pos hP he
  have hPe2 : P * pw 1021 ≤ 1048576 * pw 1021 := Int.mul_le_mul_of_nonneg_right hP1 (Int.le_of_lt he)
  have hOP : 0 < P * one' := Int.mul_pos hP one_pos
  generalize hK : hueN R G B M P = K at *
  have hKO1 : K * one' ≤ 5 * (P * one') := by
    have := Int.mul_le_mul_of_nonneg_right n2 (Int.le_of_lt one_pos)
    rwa [Int.mul_assoc] at this
  have hKO2 : -(P * one') ≤ K * one' := by
    have := Int.mul_le_mul_of_nonneg_right n1 (Int.le_of_lt one_pos)
    rwa [Int.neg_mul] at this
  have c1 : z0 ≤ 5 * one' + 18 * pw 1021 := by
    have : z0 * P ≤ (5 * one' + 18 * pw 1021) * P := by
      rw [Int.add_mul, Int.mul_assoc, Int.mul_assoc, Int.mul_comm one', Int.mul_comm (pw 1021)]; omega
    exact Int.le_of_mul_le_mul_right this hP
  have c2 : -(one' + 18 * pw 1021) ≤ z0 := by
    have : -(one' + 18 * pw 1021) * P ≤ z0 * P := by
      rw [Int.neg_mul, Int.add_mul, Int.mul_assoc, Int.mul_comm one', Int.mul_comm (pw 1021)]; omega
    exact Int.le_of_mul_le_mul_right this hP
  have h6 : 0 < 6 * one' := by omega
  obtain ⟨y, hy, hyf, d1, d2, d3, d4⟩ := div_near (k := 1021) hz0 rep6 h6 (by decide) (by decide) (by
    have e : (2 : Nat) ^ 53 * 2 ^ 1021 = 2 ^ 1074 := by rw [← Nat.pow_add]
    rw [e]
    refine Nat.mul_le_mul_right _ ?_
    omega)
  have e1 : 6 * y ≤ z0 + 6 * pw 1021 := by
    have : 6 * y * one' ≤ (z0 + 6 * pw 1021) * one' := by
      rw [Int.add_mul, Int.mul_right_comm 6 (pw 1021), Int.mul_right_comm 6 y, Int.mul_comm (6 * one') y]; exact d1
    exact Int.le_of_mul_le_mul_right this one_pos
  have e2 : z0 ≤ 6 * y + 6 * pw 1021 := by
    have : z0 * one' ≤ (6 * y + 6 * pw 1021) * one' := by
      rw [Int.add_mul, Int.mul_right_comm 6 (pw 1021), Int.mul_right_comm 6 y, Int.mul_comm (6 * one') y]; exact d2
    exact Int.le_of_mul_le_mul_right this one_pos
  have hmul : ∀ {a b c : Int}, a ≤ b + c → a * P ≤ b * P + P * c := by
    intro a b c h
    have := Int.mul_le_mul_of_nonneg_right h (Int.le_of_lt hP)
    rwa [Int.add_mul, Int.mul_comm c] at this
  have f1' := hmul e1
  have f2' := hmul e2
  have q6 : P * (6 * pw 1021) = 6 * (P * pw 1021) := Int.mul_left_comm ..
  have qy : 6 * y * P = 6 * (y * P) := Int.mul_assoc ..
  rw [q6, qy] at f1' f2'
  have mo := mod_one hy hyf (by omega) (by omega)
  by_cases hneg : K < 0
  · have hK1 : K * one' ≤ -one' := by
      have := Int.mul_le_mul_of_nonneg_right (show K ≤ -1 by omega) (Int.le_of_lt one_pos)
      rwa [Int.neg_mul, Int.one_mul] at this
    have hyneg : y < 0 := by
      by_cases h : y < 0
      · exact h
      · exfalso
        have : 0 ≤ y * P := Int.mul_nonneg (by omega) (Int.le_of_lt hP)
        omega
    have hfm := fmod_one hy hyf (by omega) (by omega)
    obtain ⟨z, hz, _, s1, s2⟩ := add_near (k := 1021) hfm rep_one (by decide) (by decide) (natAbs_pw (by omega) (by omega))
    have t1 := hmul s1
    have t2 := hmul s2
    rw [Int.add_mul] at t1 t2
    have : one' * P = P * one' := Int.mul_comm ..
    refine ⟨z, ?_, by omega, by omega, ?_, ?_⟩
    · unfold hueB; rw [mo.2 hyneg]; exact hz
    · unfold hueT; rw [hK, if_pos hneg, Int.add_mul, Int.mul_assoc]; omega
    · unfold hueT; rw [hK, if_pos hneg, Int.add_mul, Int.mul_assoc]; omega
  · have hy0 : 0 ≤ y := by
      by_cases h0 : K = 0
      · have := a3 h0; exact d3 (by omega)
      · have hK1 : one' ≤ K * one' := by
          have := Int.mul_le_mul_of_nonneg_right (show 1 ≤ K by omega) (Int.le_of_lt one_pos)
          rwa [Int.one_mul] at this
        refine d3 ?_
        by_cases h : 0 ≤ z0
        · exact h
        · exfalso
          have : z0 * P ≤ 0 := by
            have := Int.mul_le_mul_of_nonneg_right (show z0 ≤ 0 by omega) (Int.le_of_lt hP)
            rwa [Int.zero_mul] at this
          omega
    refine ⟨y, mo.1 hy0, hy0, by omega, ?_, ?_⟩
    · unfold hueT; rw [hK, if_neg hneg]; omega
    · unfold hueT; rw [hK, if_neg hneg]; omega

theorem rep_half : Rep 0x3fe0000000000000 (pw 1073) := by
  refine ⟨⟨false, _, _, show Float64.decode 0x3fe0000000000000 = .fin false 4503599627370496 (-53) by kernel_rfl⟩, ?_⟩
  rw [val_eq (show Float64.decode 0x3fe0000000000000 = .fin false 4503599627370496 (-53) by kernel_rfl)]
  unfold sgn pw
  simp only [Bool.false_eq_true, if_false]
  congr 1
theorem turn_int {x : UInt64} {z P t : Int} (hx : Rep x z) (h0 : 0 ≤ z) (h1 : z ≤ one' + pw 1021) (hP : 0 < P) (hP1 : P ≤ 2 ^ 20) (ht : 0 ≤ t) (g1 : 6 * (z * P) ≤ t * one' + 36 * (P * pw 1021)) (g2 : t * one' ≤ 6 * (z * P) + 36 * (P * pw 1021)) :
    ∃ a n e, decode (add (mul (mul x (ofInt 6)) (ofInt P)) 0x3fe0000000000000) = .fin a n e ∧ truncOf a n e = t := by
  have ho := ep_one
  have he := pw_pos 1021
  have hPe : 0 < P * pw 1021 := Int.mul_pos hP he
  have hPe2 : P * pw 1021 ≤ 1048576 * pw 1021 := Int.mul_le_mul_of_nonneg_right hP1 (Int.le_of_lt he)
  have k3 : pw 1024 = 8 * pw 1021 := by rw [pw2 1024 3 rfl, Int.mul_comm]; rfl
  have k23 : pw 1044 = 8388608 * pw 1021 := by rw [pw2 1044 23 rfl, Int.mul_comm]; rfl
  have k24 : pw 1045 = 16777216 * pw 1021 := by rw [pw2 1045 24 rfl, Int.mul_comm]; rfl
  have kh : pw 1073 = 4503599627370496 * pw 1021 := by rw [pw2 1073 52 rfl, Int.mul_comm]; rfl
  obtain ⟨z1, hz1, a1, a2, a3⟩ := mul_near (k := 1024) hx (rep_int (i := 6) (by decide)) h0 (by decide) (by decide) (by decide) (natAbs_pw (by omega) (by omega))
  have hz1P : 0 ≤ z1 * P := Int.mul_nonneg a3 (Int.le_of_lt hP)
  have b1 : z1 * P ≤ 6 * (z * P) + P * pw 1024 := by
    have := Int.mul_le_mul_of_nonneg_right a1 (Int.le_of_lt hP)
    rwa [Int.add_mul, Int.mul_comm (pw 1024), Int.mul_right_comm, Int.mul_comm (z * P)] at this
  have b2 : 6 * (z * P) ≤ z1 * P + P * pw 1024 := by
    have := Int.mul_le_mul_of_nonneg_right a2 (Int.le_of_lt hP)
    rwa [Int.add_mul, Int.mul_comm (pw 1024), Int.mul_right_comm, Int.mul_comm (z * P)] at this
  have q8 : P * pw 1024 = 8 * (P * pw 1021) := by rw [k3]; exact Int.mul_left_comm ..
  rw [q8] at b1 b2
  have hzP : z * P ≤ P * one' + P * pw 1021 := by
    have := Int.mul_le_mul_of_nonneg_right h1 (Int.le_of_lt hP)
    rwa [Int.add_mul, Int.mul_comm one', Int.mul_comm (pw 1021)] at this
  have hPO : P * one' ≤ 1048576 * one' := Int.mul_le_mul_of_nonneg_right hP1 (Int.le_of_lt one_pos)
  obtain ⟨z2, hz2, c1, c2, c3⟩ := mul_near (k := 1044) hz1 (rep_int (i := P) (by omega)) a3 hP (by decide) (by decide) (natAbs_pw (by omega) (by omega))
  obtain ⟨z3, hz3, _, d1, d2⟩ := add_near (k := 1045) hz2 rep_half (by decide) (by decide) (natAbs_pw (by omega) (by omega))
  have hn : ((t.toNat : Nat) : Int) = t := by omega
  have htO : 0 ≤ t * one' := Int.mul_nonneg ht (Int.le_of_lt one_pos)
  obtain ⟨a, n, e, w1, w2⟩ := trunc_rep (n := t.toNat) hz3 (by rw [hn]; omega) (by rw [hn, Int.add_mul, Int.one_mul]; omega) (by omega)
  exact ⟨a, n, e, w1, by rw [w2, hn]⟩
/-- a float that is the rounded fraction n/d -/
noncomputable def FracIs (x : UInt64) (n d : Nat) : Prop := ∃ z, Rep x z ∧ Rep (ofFrac false n d) z
theorem frac_zero {d : Nat} (hd : 0 < d) : Rep (ofFrac false 0 d) 0 := by
  have r := ofFrac_right (neg := false) (n := 0) (d := d) (W := 0) (D := 1) hd (by simp) (by decide)
  exact right_exact (W := 0) (D := 1) (N := 0) (by simpa using r) (by decide) fits_zero
theorem frac_div {x y : UInt64} {A P U : Int} (hx : Rep x (A * U)) (hy : Rep y (P * U)) (hU : 0 < U) (hA : 0 ≤ A) (hP : A ≤ P) (hP0 : 0 < P) : FracIs (div x y) A.natAbs P.natAbs := by
  obtain ⟨z, hz, _⟩ := part_near hx hy hU hA hP hP0
  refine ⟨z, hz, ?_⟩
  have hPU : 0 < P * U := Int.mul_pos hP0 hU
  obtain ⟨⟨a, m, e, h1⟩, h3⟩ := hx
  obtain ⟨⟨b, n, f, h2⟩, h4⟩ := hy
  have v1 := val_eq h1
  have v2 := val_eq h2
  rw [h3] at v1; rw [h4] at v2
  have hb : b = false := by
    cases b with
    | false => rfl
    | true => unfold sgn at v2; simp only [if_true] at v2; omega
  subst hb
  have hn : n ≠ 0 := by
    rintro rfl
    unfold sgn at v2; simp at v2; omega
  have r := div_right h1 h2 hn
  rw [h3, h4] at r
  by_cases h0 : A = 0
  · subst h0
    have e0 : ∀ c, sgn c 0 = 0 := by intro c; unfold sgn; cases c <;> rfl
    have s1 := right_exact (W := 0) (D := (P * U).natAbs) (N := 0) (by simpa using r) (by omega) fits_zero
    rw [e0] at s1
    rw [rep_fun hz s1]
    exact frac_zero (by omega)
  · have hAU : 0 < A * U := Int.mul_pos (by omega) hU
    have ha : a = false := by
      cases a with
      | false => rfl
      | true => unfold sgn at v1; simp only [if_true] at v1; omega
    subst ha
    refine right_unique r (ofFrac_right (by omega) ?_ (by omega)) (by omega) hz
    rw [Int.natAbs_mul, Int.natAbs_mul]
    generalize (2 : Nat) ^ 1074 = O
    generalize A.natAbs = a1
    generalize P.natAbs = p1
    generalize U.natAbs = u1
    rw [Nat.mul_comm p1 u1, ← Nat.mul_assoc, Nat.mul_right_comm a1 O u1]
theorem frac_exact {A T U : Int} (hT : 0 < T) (hU : 0 < U) (hTU : T * U = one') (hA : 0 ≤ A) (hf : Fits (A * U).natAbs) : Rep (ofFrac false A.natAbs T.natAbs) (A * U) := by
  have r := ofFrac_right (neg := false) (n := A.natAbs) (d := T.natAbs) (W := (A * U).natAbs) (D := 1) (by omega) (by
    have : (2 : Nat) ^ 1074 = (T * U).natAbs := by rw [hTU]; rfl
    rw [this, Int.natAbs_mul, Int.natAbs_mul, Nat.mul_one, Nat.mul_comm T.natAbs, Nat.mul_assoc]) (by decide)
  have s := right_exact (W := 0) (D := 1) (N := (A * U).natAbs) (by rw [Nat.one_mul]; exact r) (by decide) hf
  have e : sgn false (A * U).natAbs = A * U := by
    unfold sgn; simp only [Bool.false_eq_true, if_false]
    have := Int.mul_nonneg hA (Int.le_of_lt hU)
    omega
  rwa [e] at s
theorem notInf {x : UInt64} {z : Int} (h : Rep x z) : isInf x = false := by
  obtain ⟨⟨a, m, e, h1⟩, _⟩ := h
  unfold isInf; rw [h1]
noncomputable def fmax3 (x y z : UInt64) : UInt64 := if cmp y x == some Ordering.gt then (if cmp z y == some Ordering.gt then z else y) else (if cmp z x == some Ordering.gt then z else x)
noncomputable def fmin3 (x y z : UInt64) : UInt64 := if cmp y x == some Ordering.lt then (if cmp z y == some Ordering.lt then z else y) else (if cmp z x == some Ordering.lt then z else x)
theorem fmax3_rep {x y z : UInt64} {X Y Z U : Int} (hU : 0 < U) (hx : Rep x (X * U)) (hy : Rep y (Y * U)) (hz : Rep z (Z * U)) : Rep (fmax3 x y z) (max X (max Y Z) * U) := by
  have lt : ∀ {a b : Int}, a * U < b * U ↔ a < b := fun {a b} => ⟨fun h => Int.lt_of_mul_lt_mul_right h (Int.le_of_lt hU), fun h => Int.mul_lt_mul_of_pos_right h hU⟩
  unfold fmax3
  rw [gt_rep hy hx, gt_rep hz hy, gt_rep hz hx]
  simp only [lt, decide_eq_true_eq]
  split
  · split
    · rw [show max X (max Y Z) = Z by omega]; exact hz
    · rw [show max X (max Y Z) = Y by omega]; exact hy
  · split
    · rw [show max X (max Y Z) = Z by omega]; exact hz
    · rw [show max X (max Y Z) = X by omega]; exact hx
theorem fmin3_rep {x y z : UInt64} {X Y Z U : Int} (hU : 0 < U) (hx : Rep x (X * U)) (hy : Rep y (Y * U)) (hz : Rep z (Z * U)) : Rep (fmin3 x y z) (min X (min Y Z) * U) := by
  have lt : ∀ {a b : Int}, a * U < b * U ↔ a < b := fun {a b} => ⟨fun h => Int.lt_of_mul_lt_mul_right h (Int.le_of_lt hU), fun h => Int.mul_lt_mul_of_pos_right h hU⟩
  unfold fmin3
  rw [lt_rep hy hx, lt_rep hz hy, lt_rep hz hx]
  simp only [lt, decide_eq_true_eq]
  split
  · split
    · rw [show min X (min Y Z) = Z by omega]; exact hz
    · rw [show min X (min Y Z) = Y by omega]; exact hy
  · split
    · rw [show min X (min Y Z) = Z by omega]; exact hz
    · rw [show min X (min Y Z) = X by omega]; exact hx
end Mine
end

section
open PySem PySem.W PySem.Calls PyProof.Rows PySem.SeqAt
set_option Elab.async false
set_option maxRecDepth 100000
set_option linter.all false
namespace Mine
section
variable {prog : Program} {w : World} {A : Around} {E : Value → Shared → Prop} {s ι : Shared} {g : Heap} {l : List (Addr × Ob)} {env : Env} {L : Addr} {names : List (Str × NameKind)} {cells : List (Str × Addr)} {m : Str → Option Value}
variable {Q : Value → Shared → Prop}
theorem best3 (bt : Nat → Nat → Bool) : argBest bt 2 = if bt 1 0 = true then (if bt 2 1 = true then 2 else 1) else (if bt 2 0 = true then 2 else 0) := by
  have e1 : argBest bt 1 = if bt 1 0 = true then 1 else 0 := rfl
  have e2 : argBest bt 2 = if bt 2 (argBest bt 1) = true then 2 else argBest bt 1 := rfl
  rw [e2, e1]
  cases bt 1 0 <;> simp
noncomputable def flAt (x y z : UInt64) : Nat → UInt64 | 0 => x | 1 => y | _ => z
theorem cmp_floats {op : CmpOp} {x y z : UInt64} {t u v : Tok} (k : UInt64 → UInt64 → Bool) (hk : ∀ (A : Around) (p q : UInt64) (t u : Tok) (s : Shared) (Q : Value → Shared → Prop) (E : Value → Shared → Prop), Q (.bool (k p q)) s → wpAny (model prog w) A (compareOp op (.float p t) (.float q u)) Q E s)
    (hr : ∀ p q, richCompare op p q = compareOp op p q) :
    CmpOf prog w A op (fun i v' => (#[Value.float x t, .float y u, .float z v] : Array Value)[i]? = some v') (fun i j => k (flAt x y z i) (flAt x y z j)) := by
  have key : ∀ (i : Nat) (v' : Value), (#[Value.float x t, .float y u, .float z v] : Array Value)[i]? = some v' → ∃ t', v' = .float (flAt x y z i) t' := by
    intro i v' h
    match i with
    | 0 => exact ⟨t, (Option.some.inj h).symm⟩
    | 1 => exact ⟨u, (Option.some.inj h).symm⟩
    | 2 => exact ⟨v, (Option.some.inj h).symm⟩
    | n + 3 => simp at h
  intro i j vi vj s Q E hi hj h
  obtain ⟨t1, rfl⟩ := key i vi hi
  obtain ⟨t2, rfl⟩ := key j vj hj
  rw [hr]
  exact hk _ _ _ _ _ _ _ _ h
theorem b_max3 {x y z : UInt64} {t u v : Tok} (hh : A.handled = none) (D : Led ι g s l) (ht : t ≠ 0) (hu : u ≠ 0) (hv : v ≠ 0) (h : ∀ t s', t ≠ 0 → Led ι g s' l → Q (.float (fmax3 x y z) t) s') :
    wpAny (model prog w) A (call (.builtin "max") [.float x t, .float y u, .float z v]) Q E s := by
  refine wpAny_with_toks (n := s.toks) (Nat.le_refl _) ?_
  have hT : (s.heap.push { cls := .type "tuple", data := .seq #[.float x t, .float y u, .float z v] }).IsTuple s.heap.objs.size #[.float x t, .float y u, .float z v] := ⟨_, Heap.get?_push_size _ rfl, rfl, 0, rfl⟩
  refine call_max_three (wpAny_pyIter_tuple hT ?_)
  have hsz : (s.heap.push { cls := .type "tuple", data := .seq #[.float x t, .float y u, .float z v] }).objs.size = s.heap.objs.size + 1 := Heap.size_push ..
  refine ⟨_, [_, s.heap.objs.size], [_], _, _, _, _, rfl, Walks.tuple (A := A.in1) hh _ s.heap.objs.size (by rw [hsz]; exact Nat.ne_of_lt (Nat.lt_succ_self _)) #[.float x t, .float y u, .float z v],
    ⟨⟨_, Heap.get?_push_size _ rfl, rfl, rfl⟩, hT.push _⟩, fun d hd => ?_, by simp, cmp_floats (op := .Gt) (fun p q => Float64.cmp p q == some Ordering.gt) (fun A p q t u s Q E h => AutoFloatOps.gt_0 h) (fun _ _ => rfl), fun v' h' tk hP hk htk => ?_⟩
  · show d < ((s.heap.push _).push _).objs.size
    rw [Heap.size_push, hsz]
    rcases List.mem_cons.mp hd with rfl | hd
    · rw [hsz]; exact Nat.lt_succ_self _
    · rcases List.mem_cons.mp hd with rfl | hd
      · exact Nat.lt_succ_of_lt (Nat.lt_succ_self _)
      · cases hd
  · have hold : Sub s.heap h' := fun d o e => by
      refine hk d o (fun hm => ?_) (Heap.get?_push_of_some _ (Heap.get?_push_of_some _ e))
      rcases List.mem_cons.mp hm with e1 | hm
      · have := Heap.lt_size e; rw [e1, hsz] at this; exact Nat.lt_irrefl _ (Nat.lt_of_succ_lt this)
      · cases hm
    have D' := D.grow (n := tk) hold htk
    have hv' : ∃ t', t' ≠ 0 ∧ v' = .float (fmax3 x y z) t' := by
      change (#[Value.float x t, .float y u, .float z v] : Array Value)[argBest (fun i j => Float64.cmp (flAt x y z i) (flAt x y z j) == some Ordering.gt) 2]? = some v' at hP
      unfold fmax3
      rw [best3] at hP
      by_cases h1 : (Float64.cmp y x == some Ordering.gt) = true
      · rw [if_pos h1]
        rw [if_pos (by exact h1)] at hP
        by_cases h2 : (Float64.cmp z y == some Ordering.gt) = true
        · rw [if_pos h2]; rw [if_pos (show (Float64.cmp (flAt x y z 2) (flAt x y z 1) == some Ordering.gt) = true from h2)] at hP
          exact ⟨v, hv, (Option.some.inj hP).symm⟩
        · rw [if_neg h2]; rw [if_neg (show ¬ (Float64.cmp (flAt x y z 2) (flAt x y z 1) == some Ordering.gt) = true from h2)] at hP
          exact ⟨u, hu, (Option.some.inj hP).symm⟩
      · rw [if_neg h1]
        rw [if_neg (by exact h1)] at hP
        by_cases h2 : (Float64.cmp z x == some Ordering.gt) = true
        · rw [if_pos h2]; rw [if_pos (show (Float64.cmp (flAt x y z 2) (flAt x y z 0) == some Ordering.gt) = true from h2)] at hP
          exact ⟨v, hv, (Option.some.inj hP).symm⟩
        · rw [if_neg h2]; rw [if_neg (show ¬ (Float64.cmp (flAt x y z 2) (flAt x y z 0) == some Ordering.gt) = true from h2)] at hP
          exact ⟨t, ht, (Option.some.inj hP).symm⟩
    obtain ⟨t', ht', rfl⟩ := hv'
    exact h t' _ ht' D'
theorem b_min3 {x y z : UInt64} {t u v : Tok} (hh : A.handled = none) (D : Led ι g s l) (ht : t ≠ 0) (hu : u ≠ 0) (hv : v ≠ 0) (h : ∀ t s', t ≠ 0 → Led ι g s' l → Q (.float (fmin3 x y z) t) s') :
    wpAny (model prog w) A (call (.builtin "min") [.float x t, .float y u, .float z v]) Q E s := by
  refine wpAny_with_toks (n := s.toks) (Nat.le_refl _) ?_
  have hT : (s.heap.push { cls := .type "tuple", data := .seq #[.float x t, .float y u, .float z v] }).IsTuple s.heap.objs.size #[.float x t, .float y u, .float z v] := ⟨_, Heap.get?_push_size _ rfl, rfl, 0, rfl⟩
  refine call_min_three (wpAny_pyIter_tuple hT ?_)
  have hsz : (s.heap.push { cls := .type "tuple", data := .seq #[.float x t, .float y u, .float z v] }).objs.size = s.heap.objs.size + 1 := Heap.size_push ..
  refine ⟨_, [_, s.heap.objs.size], [_], _, _, _, _, rfl, Walks.tuple (A := A.in1) hh _ s.heap.objs.size (by rw [hsz]; exact Nat.ne_of_lt (Nat.lt_succ_self _)) #[.float x t, .float y u, .float z v],
    ⟨⟨_, Heap.get?_push_size _ rfl, rfl, rfl⟩, hT.push _⟩, fun d hd => ?_, by simp, cmp_floats (op := .Lt) (fun p q => Float64.cmp p q == some Ordering.lt) (fun A p q t u s Q E h => AutoFloatOps.lt_0 h) (fun _ _ => rfl), fun v' h' tk hP hk htk => ?_⟩
  · show d < ((s.heap.push _).push _).objs.size
    rw [Heap.size_push, hsz]
    rcases List.mem_cons.mp hd with rfl | hd
    · rw [hsz]; exact Nat.lt_succ_self _
    · rcases List.mem_cons.mp hd with rfl | hd
      · exact Nat.lt_succ_of_lt (Nat.lt_succ_self _)
      · cases hd
  · have hold : Sub s.heap h' := fun d o e => by
      refine hk d o (fun hm => ?_) (Heap.get?_push_of_some _ (Heap.get?_push_of_some _ e))
      rcases List.mem_cons.mp hm with e1 | hm
      · have := Heap.lt_size e; rw [e1, hsz] at this; exact Nat.lt_irrefl _ (Nat.lt_of_succ_lt this)
      · cases hm
    have D' := D.grow (n := tk) hold htk
    have hv' : ∃ t', t' ≠ 0 ∧ v' = .float (fmin3 x y z) t' := by
      change (#[Value.float x t, .float y u, .float z v] : Array Value)[argBest (fun i j => Float64.cmp (flAt x y z i) (flAt x y z j) == some Ordering.lt) 2]? = some v' at hP
      unfold fmin3
      rw [best3] at hP
      by_cases h1 : (Float64.cmp y x == some Ordering.lt) = true
      · rw [if_pos h1]
        rw [if_pos (by exact h1)] at hP
        by_cases h2 : (Float64.cmp z y == some Ordering.lt) = true
        · rw [if_pos h2]; rw [if_pos (show (Float64.cmp (flAt x y z 2) (flAt x y z 1) == some Ordering.lt) = true from h2)] at hP
          exact ⟨v, hv, (Option.some.inj hP).symm⟩
        · rw [if_neg h2]; rw [if_neg (show ¬ (Float64.cmp (flAt x y z 2) (flAt x y z 1) == some Ordering.lt) = true from h2)] at hP
          exact ⟨u, hu, (Option.some.inj hP).symm⟩
      · rw [if_neg h1]
        rw [if_neg (by exact h1)] at hP
        by_cases h2 : (Float64.cmp z x == some Ordering.lt) = true
        · rw [if_pos h2]; rw [if_pos (show (Float64.cmp (flAt x y z 2) (flAt x y z 0) == some Ordering.lt) = true from h2)] at hP
          exact ⟨v, hv, (Option.some.inj hP).symm⟩
        · rw [if_neg h2]; rw [if_neg (show ¬ (Float64.cmp (flAt x y z 2) (flAt x y z 0) == some Ordering.lt) = true from h2)] at hP
          exact ⟨t, ht, (Option.some.inj hP).symm⟩
    obtain ⟨t', ht', rfl⟩ := hv'
    exact h t' _ ht' D'
end
end Mine
end

section
open PySem PySem.W PySem.Calls PyProof.Rows PySem.SeqAt
set_option maxRecDepth 100000
set_option maxHeartbeats 1000000
namespace Mine
local macro_rules | `(tactic| walk_at "mq mem") => `(tactic| repeat (with_reducible first | exact List.mem_cons_self | refine List.mem_cons_of_mem _ ?_))
local macro_rules | `(tactic| walk_at "mq look") => `(tactic| repeat (first | with_reducible assumption | with_reducible exact upd_here | ((with_reducible refine upd_there ?_ ?_); (focus decide))))
local macro_rules | `(tactic| walk_at "mq tab") => `(tactic| ((first | unfold globTab | unfold bltTab); walk_at "mq mem"))
local macro_rules | `(tactic| walk_at "mq st") => `(tactic| first
  | (with_reducible first | refine x_nil ?_ | refine after_next ?_ | refine after_ret ?_)
  | ((with_reducible refine x_assign ?mk ?mhs); (case mhs => rfl))
  | (with_reducible first | refine x_aug ?_ | refine x_if ?_ | refine x_ret ?_)
  | ((rename Led _ _ _ _ => dOld); (with_reducible refine' st_l (by assumption) dOld ?mhs ?mk); (case mhs => rfl); (clear dOld); (intro _ _)))
local macro_rules | `(tactic| walk_at "mq stc") => `(tactic| ((with_reducible show wpAny _ _ (storeName _ _ _) _ _ _); (rename Led _ _ _ _ => dOld); (first
  | ((refine' st_c (pre := [_]) ?mv dOld ?mhk ?mhc ?mk); (case mv => assumption); (case mhk => rfl); (case mhc => rfl))
  | ((refine' st_c (pre := [_, _]) ?mv dOld ?mhk ?mhc ?mk); (case mv => assumption); (case mhk => rfl); (case mhc => rfl))
  | ((refine' st_c (pre := [_, _, _]) ?mv dOld ?mhk ?mhc ?mk); (case mv => assumption); (case mhk => rfl); (case mhc => rfl))
  | ((refine' st_c (pre := [_, _, _, _]) ?mv dOld ?mhk ?mhc ?mk); (case mv => assumption); (case mhk => rfl); (case mhc => rfl))
  | ((refine' st_c (pre := [_, _, _, _, _]) ?mv dOld ?mhk ?mhc ?mk); (case mv => assumption); (case mhk => rfl); (case mhc => rfl))
  | ((refine' st_c (pre := [_, _, _, _, _, _]) ?mv dOld ?mhk ?mhc ?mk); (case mv => assumption); (case mhk => rfl); (case mhc => rfl))
  | ((refine' st_c (pre := [_, _, _, _, _, _, _]) ?mv dOld ?mhk ?mhc ?mk); (case mv => assumption); (case mhk => rfl); (case mhc => rfl))); (clear dOld); (intro _ mD); (simp only [List.cons_append, List.nil_append] at mD)))
local macro_rules | `(tactic| walk_at "mq ev") => `(tactic| first
  | (with_reducible refine e_bin ?_)
  | ((with_reducible refine t_cmp ?mg ?mk); (case mg => rfl))
  | ((with_reducible refine e_cmp ?mg ?mk); (case mg => rfl))
  | ((with_reducible refine' nm_l ?mv ?md ?mm ?mk ?mg ?mdb ?mh); (case mv => assumption); (case md => assumption); (case mk => rfl); (case mm => walk_at "mq mem"); (case mg => walk_at "mq look"); (case mdb => rfl))
  | ((with_reducible refine' nm_c ?mv ?md ?mk ?mg ?mm ?mdb ?mh); (case mv => assumption); (case md => assumption); (case mk => rfl); (case mg => rfl); (case mm => walk_at "mq mem"); (case mdb => rfl))
  | ((with_reducible refine' nm_g ?mv ?md ?mg ?mk ?mm ?mdb ?mh); (case mv => assumption); (case md => assumption); (case mg => assumption); (case mk => rfl); (case mm => walk_at "mq tab"); (case mdb => rfl))
  | ((with_reducible refine' nm_b ?mv ?md ?mg ?mk ?mm ?mdb ?mh); (case mv => assumption); (case md => assumption); (case mg => assumption); (case mk => rfl); (case mm => walk_at "mq tab"); (case mdb => rfl))
  | ((rename Led _ _ _ _ => dOld); (with_reducible refine c_int dOld ?_); (clear dOld); (intro _ _ _))
  | ((rename Led _ _ _ _ => dOld); (with_reducible refine c_float dOld ?_); (clear dOld); (intro _ _ _ _))
  | (with_reducible first | refine c_bool ?_ | refine e_tup ?_ | refine e_list ?_ | refine sp_end ?_)
  | ((with_reducible refine sp_more ?mg ?mk); (case mg => rfl))
  | (with_reducible first | refine e_call ?_ | refine e_sub ?_)
  | ((with_reducible first | refine cw_blt ?mg ?mv ?mk | refine cw_typ ?mg ?mv ?mk); (case mg => rfl); (case mv => rfl))
  | ((rename Led _ _ _ _ => dOld); (with_reducible first | refine n_tup dOld ?mg ?mk | refine n_list dOld ?mg ?mk); (case mg => exact Nat.le_of_ble_eq_true rfl); (clear dOld); (intro _ _ _)))
local macro_rules | `(tactic| walk_at "mq lst") => `(tactic| first
  | ((refine' Led.lst ?md ?mm); (case md => assumption); (case mm => walk_at "mq mem"))
  | ((refine' Led.lstG ?md ?mm); (case md => assumption); (case mm => assumption)))
local macro_rules | `(tactic| walk_at "mq op") => `(tactic| first
  | ((rename Led _ _ _ _ => dOld); (with_reducible first | refine i_add dOld ?_ | refine i_sub dOld ?_ | refine i_iadd dOld ?_); (clear dOld); (intro _ _ _))
  | ((rename Led _ _ _ _ => dOld); (with_reducible first | refine f_add dOld ?_ | refine f_sub dOld ?_ | refine f_mul dOld ?_); (clear dOld); (intro _ _ _ _))
  | (with_reducible first | refine i_eq ?_ | refine i_ne ?_ | refine i_lt ?_ | refine i_gt ?_ | refine i_ge ?_ | refine f_lt ?_ | refine f_gt ?_ | refine f_eq ?_ | refine f_ne ?_ | refine f_le ?_ | refine b_truthy ?_)
  | ((rename Led _ _ _ _ => dOld); (with_reducible refine i_fdiv dOld ?mg ?mm ?mk); (case mg => decide); (case mm => first | exact PyProof.noPylong_of_log2 (by decide +kernel) | exact PyProof.noPylong_small (by omega)); (clear dOld); (intro _ _ _))
  | ((rename Led _ _ _ _ => dOld); (with_reducible refine' i_mod (Room.handled ?mv) dOld ?mg ?mk); (case mv => assumption); (case mg => decide); (clear dOld); (intro _ _ _)))
local macro_rules | `(tactic| walk_at "mq") => `(tactic| first | walk_at "mq st" | walk_at "mq ev" | walk_at "mq op" | walk_at "mq stc")

section
variable {prog : Program} {w : World} {A : Around} {E : Value → Shared → Prop} {s ι : Shared} {g : Heap} {l : List (Addr × Ob)}
noncomputable def cutV (y : Int) : Int := if 1 ≤ y then one' else 0

theorem yiq_zero (c : UInt64) (h : Float64.isFinite c = true) : Rep (Float64.mul c (Float64.ofInt 0)) 0 :=
  mul_zero_rep (rep_of_finite h) (by have := rep_int (i := 0) (by decide); rwa [Int.zero_mul] at this)
theorem yiq_r {y : Int} {c d : UInt64} (hy : y.natAbs ≤ 2 ^ 53) (hc : Float64.isFinite c = true) (hd : Float64.isFinite d = true) :
    Rep (Float64.add (Float64.add (Float64.ofInt y) (Float64.mul c (Float64.ofInt 0))) (Float64.mul d (Float64.ofInt 0))) (y * one') := by
  have := add_rep (add_rep (rep_int hy) (yiq_zero c hc) (by rw [Int.add_zero]; exact fits_int hy)) (yiq_zero d hd) (by rw [Int.add_zero, Int.add_zero]; exact fits_int hy)
  rwa [Int.add_zero, Int.add_zero] at this
theorem yiq_g {y : Int} {c d : UInt64} (hy : y.natAbs ≤ 2 ^ 53) (hc : Float64.isFinite c = true) (hd : Float64.isFinite d = true) :
    Rep (Float64.sub (Float64.sub (Float64.ofInt y) (Float64.mul c (Float64.ofInt 0))) (Float64.mul d (Float64.ofInt 0))) (y * one') := by
  have := sub_rep (sub_rep (rep_int hy) (yiq_zero c hc) (by rw [Int.sub_zero]; exact fits_int hy)) (yiq_zero d hd) (by rw [Int.sub_zero, Int.sub_zero]; exact fits_int hy)
  rwa [Int.sub_zero, Int.sub_zero] at this
theorem yiq_b {y : Int} {c d : UInt64} (hy : y.natAbs ≤ 2 ^ 53) (hc : Float64.isFinite c = true) (hd : Float64.isFinite d = true) :
    Rep (Float64.add (Float64.sub (Float64.ofInt y) (Float64.mul c (Float64.ofInt 0))) (Float64.mul d (Float64.ofInt 0))) (y * one') := by
  have := add_rep (sub_rep (rep_int hy) (yiq_zero c hc) (by rw [Int.sub_zero]; exact fits_int hy)) (yiq_zero d hd) (by rw [Int.add_zero, Int.sub_zero]; exact fits_int hy)
  rwa [Int.add_zero, Int.sub_zero] at this

theorem yiq_spec {n : Nat} {y : Int} {t₀ t₁ t₂ : Tok} {Q : Value → Shared → Prop} (D : Led ι g s l) (G : Grd g) (R : Room A (n + 1)) (hy : y.natAbs ≤ 2 ^ 53)
    (h : ∀ a p q r t₃ t₄ t₅ s' κ, Rep p (cutV y) → Rep q (cutV y) → Rep r (cutV y) → t₃ ≠ 0 → t₄ ≠ 0 → t₅ ≠ 0 → t₃ < κ → t₄ < κ → t₅ < κ → ι.toks ≤ κ → Led (bump ι κ) g s' ((a, .tup [.float p t₃, .float q t₄, .float r t₅]) :: l) → Q (.ref a) s') :
    wpAny (model prog w) A (call (.ref 21) [.int y t₀, .int 0 t₁, .int 0 t₂]) Q E s := by
  refine call_fn (binds := [("y", .int y t₀), ("i", .int 0 t₁), ("q", .int 0 t₂)]) D G G.yiq R rfl rfl rfl ?hb ?hk ?hn ?h
  case hb => intro fd h1 h2 h3; unfold bindArgs; rw [h1, h2, h3]; rfl
  case hk => exact fun n => kinds_of (k := n) ⟨.inl rfl, .inl rfl, .inl rfl, trivial⟩
  case hn => decide
  intro env A' s' L V R' D'
  replace D' : Led (bump ι ι.toks) g s' ((L, .ns (upd (upd (upd (fun _ => none) "y" (.int y t₀)) "i" (.int 0 t₁)) "q" (.int 0 t₂))) :: l) := D'
  replace V : EnvIs env L [("y", .local), ("i", .local), ("q", .local), ("r", .local), ("g", .local), ("b", .local)] [] := V
  clear D
  conv in (bodyOf (defAt 1)) => whnf
  have hy2 : y.natAbs < 2 ^ 1023 := Nat.lt_of_le_of_lt hy (by decide +kernel)
  have h0 : (0 : Int).natAbs < 2 ^ 1023 := by decide +kernel
  have hp := one_pos
  have k1 : (Float64.cmp 0 0x3ff0000000000000 == some Ordering.gt) = false := by rw [gt_rep rep_zero rep_one]; exact decide_eq_false (by omega)
  have fr : ∀ c d, Float64.isFinite c = true → Float64.isFinite d = true → Rep (Float64.add (Float64.add (Float64.ofInt y) (Float64.mul c (Float64.ofInt 0))) (Float64.mul d (Float64.ofInt 0))) (y * one') := fun c d => yiq_r hy
  have fg : ∀ c d, Float64.isFinite c = true → Float64.isFinite d = true → Rep (Float64.sub (Float64.sub (Float64.ofInt y) (Float64.mul c (Float64.ofInt 0))) (Float64.mul d (Float64.ofInt 0))) (y * one') := fun c d => yiq_g hy
  have fb : ∀ c d, Float64.isFinite c = true → Float64.isFinite d = true → Rep (Float64.add (Float64.sub (Float64.ofInt y) (Float64.mul c (Float64.ofInt 0))) (Float64.mul d (Float64.ofInt 0))) (y * one') := fun c d => yiq_b hy
  have m1 : cutV y = 0 ∨ cutV y = one' ∨ cutV y = y * one' := by unfold cutV; split <;> simp
  rcases (by omega : y < 0 ∨ (y = 0 ∨ y = 1) ∨ 2 ≤ y) with hc | hc | hc
  · have e : cutV y = 0 := if_neg (by omega)
    have z : y * one' < 0 := Int.mul_neg_of_neg_of_pos hc hp
    have k0 : ∀ x, Rep x (y * one') → (Float64.cmp x 0 == some Ordering.lt) = true := fun x hx => by rw [lt_rep hx rep_zero]; exact decide_eq_true z
    repeat (first
      | ((rename Led _ _ _ _ => dOld); (with_reducible first | refine c_floatK dOld ?_ | refine f_addK dOld ?_ | refine f_subK dOld ?_ | refine fi_mulK dOld h0 ?_ | refine if_addK dOld hy2 ?_ | refine if_subK dOld hy2 ?_); (clear dOld); (intro _ _ _ _ _))
      | walk_at "mq"
      | ((with_reducible refine if_t (k0 _ ?hc) ?_); (case hc => (first | (with_reducible refine fr _ _ ?_ ?_) | (with_reducible refine fg _ _ ?_ ?_) | (with_reducible refine fb _ _ ?_ ?_)) <;> decide +kernel))
      | with_reducible refine if_f k1 ?_)
    rename Led _ _ _ _ => D
    exact h _ _ _ _ _ _ _ _ _ (e ▸ rep_zero) (e ▸ rep_zero) (e ▸ rep_zero) (by assumption) (by assumption) (by assumption) (by omega) (by omega) (by omega) (by omega) D.drop1
  · have e : cutV y = y * one' := by rcases hc with rfl | rfl <;> simp [cutV]
    have k0 : ∀ x, Rep x (y * one') → (Float64.cmp x 0 == some Ordering.lt) = false := fun x hx => by rw [lt_rep hx rep_zero]; rcases hc with rfl | rfl <;> exact decide_eq_false (by omega)
    have k2 : ∀ x, Rep x (y * one') → (Float64.cmp x 0x3ff0000000000000 == some Ordering.gt) = false := fun x hx => by rw [gt_rep hx rep_one]; rcases hc with rfl | rfl <;> exact decide_eq_false (by omega)
    repeat (first
      | ((rename Led _ _ _ _ => dOld); (with_reducible first | refine c_floatK dOld ?_ | refine f_addK dOld ?_ | refine f_subK dOld ?_ | refine fi_mulK dOld h0 ?_ | refine if_addK dOld hy2 ?_ | refine if_subK dOld hy2 ?_); (clear dOld); (intro _ _ _ _ _))
      | walk_at "mq"
      | ((with_reducible refine if_f (k0 _ ?hc) ?_); (case hc => (first | (with_reducible refine fr _ _ ?_ ?_) | (with_reducible refine fg _ _ ?_ ?_) | (with_reducible refine fb _ _ ?_ ?_)) <;> decide +kernel))
      | ((with_reducible refine if_f (k2 _ ?hc) ?_); (case hc => (first | (with_reducible refine fr _ _ ?_ ?_) | (with_reducible refine fg _ _ ?_ ?_) | (with_reducible refine fb _ _ ?_ ?_)) <;> decide +kernel)))
    rename Led _ _ _ _ => D
    refine h _ _ _ _ _ _ _ _ _ ?_ ?_ ?_ (by assumption) (by assumption) (by assumption) (by omega) (by omega) (by omega) (by omega) D.drop1
    · rw [e]; exact fr _ _ (by decide +kernel) (by decide +kernel)
    · rw [e]; exact fg _ _ (by decide +kernel) (by decide +kernel)
    · rw [e]; exact fb _ _ (by decide +kernel) (by decide +kernel)
  · have e : cutV y = one' := if_pos (by omega)
    have z1 : one' < y * one' := by have := Int.mul_lt_mul_of_pos_right (show (1 : Int) < y by omega) hp; rwa [Int.one_mul] at this
    have k0 : ∀ x, Rep x (y * one') → (Float64.cmp x 0 == some Ordering.lt) = false := fun x hx => by rw [lt_rep hx rep_zero]; exact decide_eq_false (by omega)
    have k2 : ∀ x, Rep x (y * one') → (Float64.cmp x 0x3ff0000000000000 == some Ordering.gt) = true := fun x hx => by rw [gt_rep hx rep_one]; exact decide_eq_true z1
    repeat (first
      | ((rename Led _ _ _ _ => dOld); (with_reducible first | refine c_floatK dOld ?_ | refine f_addK dOld ?_ | refine f_subK dOld ?_ | refine fi_mulK dOld h0 ?_ | refine if_addK dOld hy2 ?_ | refine if_subK dOld hy2 ?_); (clear dOld); (intro _ _ _ _ _))
      | walk_at "mq"
      | ((with_reducible refine if_f (k0 _ ?hc) ?_); (case hc => (first | (with_reducible refine fr _ _ ?_ ?_) | (with_reducible refine fg _ _ ?_ ?_) | (with_reducible refine fb _ _ ?_ ?_)) <;> decide +kernel))
      | ((with_reducible refine if_t (k2 _ ?hc) ?_); (case hc => (first | (with_reducible refine fr _ _ ?_ ?_) | (with_reducible refine fg _ _ ?_ ?_) | (with_reducible refine fb _ _ ?_ ?_)) <;> decide +kernel)))
    rename Led _ _ _ _ => D
    exact h _ _ _ _ _ _ _ _ _ (e ▸ rep_one) (e ▸ rep_one) (e ▸ rep_one) (by assumption) (by assumption) (by assumption) (by omega) (by omega) (by omega) (by omega) D.drop1
end

section
variable {prog : Program} {w : World} {A : Around} {E : Value → Shared → Prop} {s ι : Shared} {g : Heap} {l : List (Addr × Ob)}

theorem IntsAre.item {vs : List Value} {ns : List Int} (h : IntsAre vs ns) {i : Nat} {n : Int} (e : ns[i]? = some n) : ∃ t, vs[i]? = some (.int n t) := h.get i n e

theorem low_spec {n : Nat} {a : Addr} {vs : List Value} {ns : List Int} {Q : Value → Shared → Prop} (D : Led ι g s l) (G : Grd g) (R : Room A (n + 1)) (hl : g.IsList a vs.toArray) (hi : IntsAre vs ns) (h0 : 0 < ns.length) (h64 : ns.length < 64)
    (h : ∀ (ms : List Int) k t s', ms.Perm ns → ms.Pairwise (· ≤ ·) → ms[(ns.length - 1) / 2]? = some k → Led ι g s' l → Q (.int k t) s') :
    wpAny (model prog w) A (call (.ref 55) [.ref a]) Q E s := by
  refine call_fn (binds := [("data", .ref a)]) D G G.low R rfl rfl rfl ?hb ?hk ?hn ?h
  case hb => intro fd h1 h2 h3; unfold bindArgs; rw [h1, h2, h3]; rfl
  case hk => exact fun n => kinds_of (k := n) ⟨.inl rfl, trivial⟩
  case hn => decide
  intro env A' s' L V R' D'
  replace D' : Led ι g s' ((L, .ns (upd (fun _ => none) "data" (.ref a))) :: l) := D'
  replace V : EnvIs env L [("data", .local), ("n", .local), ("sorted", .globalImplicit), ("len", .globalImplicit), ("StatisticsError", .globalImplicit)] [] := V
  clear D
  conv in (bodyOf (defAt 6)) => whnf
  have hvs : vs.length = ns.length := hi.length
  repeat walk_at "mq"
  refine b_sorted D' (D'.lstG hl) hi (by omega) fun r ys ms s₂ b1 b2 b3 D2 => ?_
  clear D'
  have hms : ms.length = ns.length := b2.length_eq
  have hys : ys.length = ns.length := by rw [b1.length, hms]
  repeat walk_at "mq"
  (rename Led _ _ _ _ => D3)
  refine b_len D3 (by walk_at "mq lst") (by omega) ?_
  clear D3; intro t4 s4 D4
  rw [hys]
  repeat walk_at "mq"
  refine if_f (beq_eq_false_iff_ne.mpr (by omega)) ?_
  have hf : (ns.length : Int).fmod 2 = ((ns.length % 2 : Nat) : Int) := by rw [Int.fmod_eq_emod_of_nonneg _ (by decide)]; rfl
  have hd : (ns.length : Int).fdiv 2 = ((ns.length / 2 : Nat) : Int) := by rw [Int.fdiv_eq_ediv_of_nonneg _ (by decide)]; rfl
  repeat walk_at "mq"
  obtain ⟨k, hk⟩ : ∃ k, ms[(ns.length - 1) / 2]? = some k := ⟨ms[(ns.length - 1) / 2]'(by omega), List.getElem?_eq_getElem (by omega)⟩
  obtain ⟨tk, hyk⟩ := IntsAre.item b1 hk
  by_cases hp : ns.length % 2 = 1
  · refine if_t (by rw [hf, hp]; rfl) ?_
    have e1 : ns.length / 2 = (ns.length - 1) / 2 := by omega
    repeat walk_at "mq"
    rw [hd, e1]
    refine s_list (by walk_at "mq lst") (by omega) (by omega) (by rw [Int.toNat_natCast]; exact hyk) (by with_unfolding_all rfl) ?_
    (rename Led _ _ _ _ => D5)
    exact h ms k tk _ b2 b3 hk (D5.drop1.drop1)
  · refine if_f (by rw [hf]; exact beq_eq_false_iff_ne.mpr (by omega)) ?_
    repeat walk_at "mq"
    have e2 : (ns.length : Int).fdiv 2 - 1 = (((ns.length - 1) / 2 : Nat) : Int) := by rw [hd]; exact half_low hp h0
    rw [e2]
    refine s_list (by walk_at "mq lst") (by omega) (by omega) (by rw [Int.toNat_natCast]; exact hyk) (by with_unfolding_all rfl) ?_
    (rename Led _ _ _ _ => D5)
    exact h ms k tk _ b2 b3 hk (D5.drop1.drop1)

theorem high_spec {n : Nat} {a : Addr} {vs : List Value} {ns : List Int} {Q : Value → Shared → Prop} (D : Led ι g s l) (G : Grd g) (R : Room A (n + 1)) (hl : g.IsList a vs.toArray) (hi : IntsAre vs ns) (h0 : 0 < ns.length) (h64 : ns.length < 64)
    (h : ∀ (ms : List Int) k t s', ms.Perm ns → ms.Pairwise (· ≤ ·) → ms[ns.length / 2]? = some k → Led ι g s' l → Q (.int k t) s') :
    wpAny (model prog w) A (call (.ref 62) [.ref a]) Q E s := by
  refine call_fn (binds := [("data", .ref a)]) D G G.high R rfl rfl rfl ?hb ?hk ?hn ?h
  case hb => intro fd h1 h2 h3; unfold bindArgs; rw [h1, h2, h3]; rfl
  case hk => exact fun n => kinds_of (k := n) ⟨.inl rfl, trivial⟩
  case hn => decide
  intro env A' s' L V R' D'
  replace D' : Led ι g s' ((L, .ns (upd (fun _ => none) "data" (.ref a))) :: l) := D'
  replace V : EnvIs env L [("data", .local), ("n", .local), ("sorted", .globalImplicit), ("len", .globalImplicit), ("StatisticsError", .globalImplicit)] [] := V
  clear D
  conv in (bodyOf (defAt 7)) => whnf
  have hvs : vs.length = ns.length := hi.length
  repeat walk_at "mq"
  refine b_sorted D' (D'.lstG hl) hi (by omega) fun r ys ms s₂ b1 b2 b3 D2 => ?_
  clear D'
  have hms : ms.length = ns.length := b2.length_eq
  have hys : ys.length = ns.length := by rw [b1.length, hms]
  repeat walk_at "mq"
  (rename Led _ _ _ _ => D3)
  refine b_len D3 (by walk_at "mq lst") (by omega) ?_
  clear D3; intro t4 s4 D4
  rw [hys]
  repeat walk_at "mq"
  refine if_f (beq_eq_false_iff_ne.mpr (by omega)) ?_
  have hd : (ns.length : Int).fdiv 2 = ((ns.length / 2 : Nat) : Int) := by rw [Int.fdiv_eq_ediv_of_nonneg _ (by decide)]; rfl
  obtain ⟨k, hk⟩ : ∃ k, ms[ns.length / 2]? = some k := ⟨ms[ns.length / 2]'(by omega), List.getElem?_eq_getElem (by omega)⟩
  obtain ⟨tk, hyk⟩ := IntsAre.item b1 hk
  repeat walk_at "mq"
  rw [hd]
  refine s_list (by walk_at "mq lst") (by omega) (by omega) (by rw [Int.toNat_natCast]; exact hyk) (by with_unfolding_all rfl) ?_
  (rename Led _ _ _ _ => D5)
  exact h ms k tk _ b2 b3 hk (D5.drop1.drop1)
end

section
variable {prog : Program} {w : World} {A : Around} {E : Value → Shared → Prop} {s ι : Shared} {g : Heap} {l : List (Addr × Ob)}

theorem colours_spec {n : Nat} {a : Addr} {vs : List Value} {ns : List Int} {T : Int} {tT : Tok} {Q : Value → Shared → Prop} (D : Led ι g s l) (G : Grd g) (R : Room A (n + 1)) (hl : g.IsList a vs.toArray) (hi : IntsAre vs ns) (h64 : ns.length ≤ 63) (hT : 2 ≤ T) (hT2 : T ≤ 2 ^ 20)
    (h : ∀ r cs g' s', Sub g g' → RowAt g' r cs → 2 ≤ cs.length → cs.length ≤ 5 → (∀ c ∈ cs, Good T c) → Led ι g' s' l → Q (.ref r) s') :
    wpAny (model prog w) A (call (.ref 67) [.ref a, .int T tT]) Q E s := by
  refine call_fn (binds := [("script", .ref a), ("top", .int T tT)]) D G G.colours R rfl rfl rfl ?hb ?hk ?hn ?h
  case hb => intro fd h1 h2 h3; unfold bindArgs; rw [h1, h2, h3]; rfl
  case hk => exact fun n => kinds_of (k := n) ⟨.inl rfl, .inr ⟨rfl, rfl⟩, trivial⟩
  case hn => decide
  intro env A' s' L V R' D'
  replace D' : Led ι g s' ((L, .ns (upd (fun _ => none) "script" (.ref a))) :: (L + 1, .cell (some (.int T tT))) :: l) := D'
  replace V : EnvIs env L [("script", .local), ("top", .cell), ("numbers", .local), ("colours", .local), ("k", .local), ("len", .globalImplicit), ("range", .globalImplicit)] [("top", L + 1)] := V
  clear D
  conv in (bodyOf (defAt 9)) => whnf
  have hvs : vs.length = ns.length := hi.length
  refine x_comp V (cl := [("top", L + 1)]) rfl rfl (by decide) (by intro _; rfl) rfl rfl rfl ?_
  repeat walk_at "mq"
  refine e_sl2 ?_
  repeat walk_at "mq"
  (rename Led _ _ _ _ => D1)
  refine n_slice D1 fun sl s2 hsl D2 => ?_
  clear D1
  refine l_slice D2 (D2.lstG hl) (.int _ _) (.int _ _) hsl rfl (by rw [hvs]; exact Nat.le_trans h64 (by decide)) (by with_unfolding_all rfl) fun r0 s3 D3 => ?_
  clear D2
  obtain ⟨g1, hg1, D4, hr0⟩ := Led.freezeAt (pre := [_]) D3
  clear D3
  have hz : ∃ zs : List Int, IntsAre (kms_pick vs (some 1) (some 10)) zs ∧ zs.length ≤ 9 := by
    refine ⟨_, (hi.drop _).take _, ?_⟩
    rw [List.length_take, List.length_drop, ← hvs]
    simp only [kms_hi, kms_lo]
    rw [if_neg (by decide), if_neg (by decide)]
    omega
  obtain ⟨zs, hz1, hz2⟩ := hz
  generalize kms_pick vs (some 1) (some 10) = ws at hr0 hz1
  have hr1 : g1.IsList r0 ws.toArray := Heap.PlainList.isList hr0
  have G1 := G.mono hg1
  refine it_list D4 hr1 fun I s4 D5 => ?_
  clear D4
  have hws : ws.length = zs.length := hz1.length
  refine comp_use (K := fun s' => wpAny (model prog w) A' (execs _ env) _ _ s') V (iter_list R'.handled hr1) (fun i g ys _ => ∃ ks : List Int, IntsAre ys ks ∧ ks.length = i ∧ ∀ k ∈ ks, 0 ≤ k ∧ k ≤ T) (fun _ _ _ _ _ _ h => h) D5
    ⟨[], .nil, rfl, fun _ hk => nomatch hk⟩ rfl (by decide) (by rw [hws]; exact Nat.le_trans hz2 (by decide)) (fun i g' ys n' _ hJ => by obtain ⟨ks, h1, h2, _⟩ := hJ; rw [h1.length, h2]; exact Nat.le_refl _) (by intro _; rfl) rfl ?done ?turn
  case turn =>
    intro cenv C i v g' ys mc cm tl s' VC hlt hP hs hJ DC
    obtain ⟨ks, hk1, hk2, hk3⟩ := hJ
    replace VC : EnvIs cenv C [(".0", .local), ("number", .local), ("top", .cell)] [("top", L + 1)] := VC
    replace DC : Led ι g' s' ((C, .ns mc) :: (L, .ns (upd (fun _ => none) "script" (.ref a))) :: (L + 1, .cell (some (.int T tT))) :: (l ++ tl)) := DC
    obtain ⟨z, hz3⟩ : ∃ z, zs[i]? = some z := ⟨zs[i]'(by omega), List.getElem?_eq_getElem (by omega)⟩
    obtain ⟨tz, hz4⟩ := IntsAre.item hz1 hz3
    have hv : v = .int z tz := by
      have e : ws[i]? = some v := hP
      rw [hz4] at e; exact (Option.some.inj e).symm
    subst hv
    refine a_name ?_
    walk_at "mq"
    refine ts_nil (if_t rfl ?_)
    repeat walk_at "mq"
    (rename Led _ _ _ _ => D6)
    refine i_mod R'.handled D6 (by omega) fun t7 s7 D7 => ?_
    refine ⟨g', _, cm, Sub.refl _, ⟨ks ++ [z.fmod (T + 1)], hk1.append (.cons _ _ .nil), by simp [hk2], fun k hk => ?_⟩, D7⟩
    rcases List.mem_append.mp hk with hk | hk
    · exact hk3 k hk
    · have e := List.mem_singleton.mp hk
      subst e
      have h1 := Int.fmod_nonneg_of_pos z (show (0 : Int) < T + 1 by omega)
      have h2 := Int.fmod_lt_of_pos z (show (0 : Int) < T + 1 by omega)
      omega
  case done =>
    intro r1 g2 ys s5 hg2 hJ D6
    obtain ⟨ks, hk1, hk2, hk3⟩ := hJ
    clear D5
    replace D6 : Led ι g2 s5 ([(L, .ns (upd (upd (fun _ => none) "script" (.ref a)) "numbers" (.ref r1))), (r1, .list ys), (L + 1, .cell (some (.int T tT)))] ++ l) := D6
    have G2 := G1.mono hg2
    refine x_while (fun k _ f => ∃ (ys : List Value) (ks : List Int), f = [(L, .ns (upd (upd (fun _ => none) "script" (.ref a)) "numbers" (.ref r1))), (r1, .list ys), (L + 1, .cell (some (.int T tT)))] ∧ IntsAre ys ks ∧ ks.length ≤ 9 ∧ (∀ k ∈ ks, 0 ≤ k ∧ k ≤ T) ∧ k = (3 - ks.length % 3) % 3)
      _ D6 ⟨ys, ks, rfl, hk1, by omega, hk3, rfl⟩ ?_
    have hg2' := hg2
    clear D6 hk1 hk2 hk3 ks ys hg2 hws hz1 hz2 hr1 hr0
    rintro k g3 f s6 hg3 ⟨ys, ks, rfl, hk1, hk2, hk3, rfl⟩ D7
    replace D7 : Led ι g3 s6 ((L, .ns (upd (upd (fun _ => none) "script" (.ref a)) "numbers" (.ref r1))) :: (r1, .list ys) :: (L + 1, .cell (some (.int T tT))) :: l) := D7
    have G3 := G2.mono hg3
    have hys : ys.length = ks.length := hk1.length
    repeat walk_at "mq"
    (rename Led _ _ _ _ => D8)
    refine b_len D8 (by walk_at "mq lst") (by omega) ?_
    clear D8; intro t9 s9 D9
    rw [hys]
    repeat walk_at "mq"
    have hf : (ks.length : Int).fmod 3 = ((ks.length % 3 : Nat) : Int) := by rw [Int.fmod_eq_emod_of_nonneg _ (by decide)]; rfl
    by_cases h3 : ks.length % 3 = 0
    · refine if_f (by rw [hf, h3]; rfl) ?_
      repeat walk_at "mq"
      refine x_for (by intro _; rfl) ?_
      repeat walk_at "mq"
      (rename Led _ _ _ _ => D10)
      refine b_len D10 (by walk_at "mq lst") (by omega) ?_
      clear D10; intro t11 s11 D11
      rw [hys]
      repeat walk_at "mq"
      (rename Led _ _ _ _ => D12)
      refine call_rng3 D12 (by decide) (PyProof.noPylong_of_log2 (by decide +kernel)) fun r2 s13 D13 => ?_
      refine it_range' D13 (small3 (by omega)) (size3 _) fun I2 s14 D14 => ?_
      clear D12 D13
      obtain ⟨g4, hg4, D15, hc2⟩ := Led.freezeAt (pre := [_, _, _]) D14
      obtain ⟨g5, hg5, D16, hc1⟩ := Led.freezeAt (pre := [_, _, _]) D15
      clear D14 D15
      have G5 := (G3.mono hg4).mono hg5
      obtain ⟨cl, c1, c2, D17, hd1, hd2⟩ : ∃ cl c1 c2, Led ι g5 s14 ((I2, Ob.riter (0 + ((0 : Nat) : Int) * 3) ((((ks.length + 2) / 3 : Nat) : Int) - ((0 : Nat) : Int)) 3) :: ([(L, Ob.ns (upd (upd (upd (fun _ => none) "script" (.ref a)) "numbers" (.ref r1)) "colours" (.ref cl))), (cl, Ob.list [.ref c1, .ref c2]), (r1, Ob.list ys), (L + 1, Ob.cell (some (.int T tT)))] ++ l)) ∧
          ColAt g5 (.ref c1) (T, T.fdiv 2, 0) ∧ ColAt g5 (.ref c2) (0, 1, T) := ⟨_, _, _, D16, ⟨_, _, _, _, rfl, PTup.isTup hc1⟩, ⟨_, _, _, _, rfl, (PTup.isTup hc2).keeps hg5⟩⟩
      clear D16 hc1 hc2
      have hT3 : T.fdiv 2 = T / 2 := Int.fdiv_eq_ediv_of_nonneg _ (by decide)
      refine for_iter (iter_range R'.handled 0 3 ((ks.length + 2) / 3)) (fun i g f => ∃ m xs cs, f = [(L, .ns m), (cl, .list xs), (r1, .list ys), (L + 1, .cell (some (.int T tT)))] ∧ m "colours" = some (.ref cl) ∧ m "numbers" = some (.ref r1) ∧ All2 (ColAt g) xs cs ∧ cs.length = 2 + i ∧ ∀ c ∈ cs, Good T c) D17
        ⟨_, _, [(T, T.fdiv 2, 0), (0, 1, T)], rfl, by walk_at "mq look", by walk_at "mq look", .cons hd1 (.cons hd2 .nil), rfl, ?_⟩ (by intro _; rfl) ?turn ?done
      case done =>
        rintro g6 f s15 hg6 ⟨m, xs, cs, rfl, hm1, hm2, ha, hcl, hgd⟩ D18
        clear D17
        replace D18 : Led ι g6 s15 ((L, .ns m) :: (cl, .list xs) :: (r1, .list ys) :: (L + 1, .cell (some (.int T tT))) :: l) := D18
        repeat walk_at "mq"
        (rename Led _ _ _ _ => D19)
        obtain ⟨g7, hg7, D20, hx⟩ := Led.freezeAt (pre := [_]) D19
        refine h cl cs g7 _ ?_ ⟨xs, Heap.PlainList.isList hx, ha.mono fun _ _ h => h.mono hg7⟩ (by omega) (by omega) hgd (D20.drop1.drop1.drop1)
        exact (hg1.trans (hg2'.trans (hg3.trans (hg4.trans (hg5.trans (hg6.trans hg7))))))
      case turn =>
        rintro i v g6 f tl s15 hlt ⟨tv, rfl⟩ hg6 ⟨m, xs, cs, rfl, hm1, hm2, ha, hcl, hgd⟩ D18
        clear D17
        replace D18 : Led ι g6 s15 ((L, .ns m) :: (cl, .list xs) :: (r1, .list ys) :: (L + 1, .cell (some (.int T tT))) :: tl) := D18
        have hi3 : i * 3 + 2 < ks.length := by omega
        obtain ⟨k0, hk0⟩ : ∃ k, ks[i * 3]? = some k := ⟨ks[i * 3]'(by omega), List.getElem?_eq_getElem (by omega)⟩
        obtain ⟨k1, hk1'⟩ : ∃ k, ks[i * 3 + 1]? = some k := ⟨ks[i * 3 + 1]'(by omega), List.getElem?_eq_getElem (by omega)⟩
        obtain ⟨k2, hk2'⟩ : ∃ k, ks[i * 3 + 2]? = some k := ⟨ks[i * 3 + 2]'(by omega), List.getElem?_eq_getElem (by omega)⟩
        obtain ⟨u0, hy0⟩ := IntsAre.item hk1 hk0
        obtain ⟨u1, hy1⟩ := IntsAre.item hk1 hk1'
        obtain ⟨u2, hy2⟩ := IntsAre.item hk1 hk2'
        have b0 := hk3 k0 (List.mem_of_getElem? hk0)
        have b1 := hk3 k1 (List.mem_of_getElem? hk1')
        have b2 := hk3 k2 (List.mem_of_getElem? hk2')
        have e0 : (0 + (i : Int) * 3).toNat = i * 3 := by omega
        have e1 : (0 + (i : Int) * 3 + 1).toNat = i * 3 + 1 := by omega
        have e2 : (0 + (i : Int) * 3 + 2).toNat = i * 3 + 2 := by omega
        refine a_name ?_
        walk_at "mq"
        refine x_expr V.inter rfl (e_append rfl rfl rfl rfl ?_)
        repeat walk_at "mq"
        (rename Led _ _ _ _ => D19)
        refine ⟨cl, _, rfl, D19.plainL (by walk_at "mq mem"), ?_⟩
        repeat walk_at "mq"
        refine s_list (by walk_at "mq lst") (by omega) (by omega) (by rw [e0]; exact hy0) (by with_unfolding_all rfl) ?_
        repeat walk_at "mq"
        refine s_list (by walk_at "mq lst") (by omega) (by omega) (by rw [e1]; exact hy1) (by with_unfolding_all rfl) ?_
        repeat walk_at "mq"
        refine s_list (by walk_at "mq lst") (by omega) (by omega) (by rw [e2]; exact hy2) (by with_unfolding_all rfl) ?_
        repeat walk_at "mq"
        (rename Led _ _ _ _ => D20)
        have hxl := ha.length
        refine b_append (pre := [_, _]) D20 (by rw [hxl, hcl]; exact Nat.le_trans (show 2 + i ≤ 10 by omega) (by decide)) fun s21 D21 => ⟨rfl, x_nil ⟨rfl, ?_⟩⟩
        obtain ⟨g7, hg7, D22, hx⟩ := Led.freezeAt (pre := [_]) D21
        refine ⟨g7, _, hg7, ⟨_, _, cs ++ [(k0, k1, k2)], rfl, by walk_at "mq look", by walk_at "mq look", (ha.mono fun _ _ h => h.mono hg7).snoc ⟨_, _, _, _, rfl, PTup.isTup hx⟩, by simp [hcl]; omega, fun c hc => ?_⟩, D22⟩
        rcases List.mem_append.mp hc with hc | hc
        · exact hgd c hc
        · have e := List.mem_singleton.mp hc
          subst e; exact ⟨b0, b1, b2⟩
      · intro c hc
        rcases List.mem_cons.mp hc with rfl | hc
        · refine ⟨?_, ?_, ?_⟩ <;> dsimp only <;> omega
        · rcases List.mem_cons.mp hc with rfl | hc
          · refine ⟨?_, ?_, ?_⟩ <;> dsimp only <;> omega
          · cases hc
    · refine if_t (by rw [hf]; simp [bne_iff_ne]; omega) ?_
      refine x_expr V.inter rfl (e_append rfl rfl rfl rfl ?_)
      repeat walk_at "mq"
      (rename Led _ _ _ _ => D10)
      refine ⟨r1, _, rfl, D10.plainL (by walk_at "mq mem"), ?_⟩
      repeat walk_at "mq"
      (rename Led _ _ _ _ => D11)
      refine b_append (pre := [_]) D11 (by rw [hys]; exact Nat.le_trans hk2 (by decide)) fun s12 D12 => ⟨rfl, x_nil ⟨rfl, _, g3, _, ?_, Sub.refl _, ⟨_, _, rfl, hk1.append (.cons 0 _ .nil), ?_, ?_, rfl⟩, D12⟩⟩
      · simp only [List.length_append, List.length_singleton]; exact fill3 h3
      · simp only [List.length_append, List.length_singleton]; omega
      · intro k hk
        rcases List.mem_append.mp hk with hk | hk
        · exact hk3 k hk
        · have e := List.mem_singleton.mp hk
          subst e; omega
end

section
variable {prog : Program} {w : World} {A : Around} {E : Value → Shared → Prop} {s ι : Shared} {g : Heap} {l : List (Addr × Ob)}

noncomputable def CutAt (g : Heap) (n : Nat) (v : Value) (d : Int) : Prop := ∃ b p q r t₁ t₂ t₃, v = .ref b ∧ IsTup g b [.float p t₁, .float q t₂, .float r t₃].toArray ∧ (Rep p (cutV d) ∧ Rep q (cutV d) ∧ Rep r (cutV d)) ∧ (t₁ ≠ 0 ∧ t₂ ≠ 0 ∧ t₃ ≠ 0) ∧ t₁ < n ∧ t₂ < n ∧ t₃ < n
theorem CutAt.mono {g g' : Heap} {n n' : Nat} {v : Value} {d : Int} (h : CutAt g n v d) (k : Sub g g') (hn : n ≤ n') : CutAt g' n' v d := by
  obtain ⟨b, p, q, r, t₁, t₂, t₃, e, h1, h2, h3, h4, h5, h6⟩ := h
  exact ⟨b, p, q, r, t₁, t₂, t₃, e, h1.keeps k, h2, h3, by omega, by omega, by omega⟩
theorem isTup_eq {h : Heap} {b : Addr} {xs ys : List Value} (h1 : IsTup h b xs.toArray) (h2 : IsTup h b ys.toArray) : xs = ys := by
  obtain ⟨o, e, _, n, d⟩ := h1
  obtain ⟨o', e', _, n', d'⟩ := h2
  rw [e] at e'
  cases e'
  rw [d] at d'
  injection d' with q _
  simpa using q

open Classical in
noncomputable def isCut (g : Heap) (z : Int) (y : Value) : Bool := decide (∃ b p t rest, y = .ref b ∧ IsTup g b (.float p t :: rest : List Value).toArray ∧ Float64.val p = z)
open Classical in
theorem isCut_eq {n : Nat} {z : Int} {y : Value} {d : Int} (h : CutAt g n y d) : isCut g z y = decide (cutV d = z) := by
  obtain ⟨b, p, q, r, t₁, t₂, t₃, e, h1, h2, _⟩ := h
  unfold isCut
  by_cases hz : cutV d = z
  · rw [decide_eq_true hz]
    exact decide_eq_true ⟨b, p, t₁, _, e, h1, h2.1.2.trans hz⟩
  · rw [decide_eq_false hz]
    refine decide_eq_false fun hx => ?_
    obtain ⟨b', p', t', rest, e', h1', hv⟩ := hx
    rw [e] at e'; cases e'
    have := isTup_eq h1 h1'
    injection this with q1 q2
    injection q1 with q3 q4
    subst q3
    exact hz (h2.1.2.symm.trans hv)

theorem cut_eqAt {n : Nat} {z : Int} {y : Value} {d : Int} {c : Addr} {x₁ x₂ x₃ : UInt64} {u₁ u₂ u₃ : Tok} (h : CutAt g n y d) (hsub : Sub g s.heap) (hb : NoneBooked s.heap) (hc : IsTup s.heap c [.float x₁ u₁, .float x₂ u₂, .float x₃ u₃].toArray)
    (hr : Rep x₁ z ∧ Rep x₂ z ∧ Rep x₃ z) (h0 : u₁ ≠ 0 ∧ u₂ ≠ 0 ∧ u₃ ≠ 0) (hn : n ≤ u₁ ∧ n ≤ u₂ ∧ n ≤ u₃) (hcg : g.get? c = none) (hu : A.units < cLine) : EqAt A s y (.ref c) (isCut g z y) := by
  rw [isCut_eq h]
  obtain ⟨b, p, q, r, t₁, t₂, t₃, rfl, h1, h2, h3, h4, h5, h6⟩ := h
  have hbc : b ≠ c := by
    rintro rfl
    obtain ⟨o, e, _⟩ := h1
    rw [hcg] at e; cases e
  have k1 : EqAt A.in1 s (.float p t₁) (.float x₁ u₁) (decide (cutV d = z)) := eqAt_float hb h3.1 h0.1 (fun e => by subst e; exfalso; omega) h2.1 hr.1
  have k2 : EqAt A.in1 s (.float q t₂) (.float x₂ u₂) (decide (cutV d = z)) := eqAt_float hb h3.2.1 h0.2.1 (fun e => by subst e; exfalso; omega) h2.2.1 hr.2.1
  have k3 : EqAt A.in1 s (.float r t₃) (.float x₃ u₃) (decide (cutV d = z)) := eqAt_float hb h3.2.2 h0.2.2 (fun e => by subst e; exfalso; omega) h2.2.2 hr.2.2
  have key := RcAt.tuples (A := A) (e := fun _ => decide (cutV d = z)) (h1.keeps hsub) hc hu (fun j j1 j2 => by
    have hj : j = 0 ∨ j = 1 ∨ j = 2 := by simp at j1; omega
    rcases hj with rfl | rfl | rfl
    · exact k1
    · exact k2
    · exact k3)
  have e : ((List.range (min [Value.float p t₁, Value.float q t₂, Value.float r t₃].toArray.size [Value.float x₁ u₁, Value.float x₂ u₂, Value.float x₃ u₃].toArray.size)).all (fun _ => decide (cutV d = z)) && [Value.float p t₁, Value.float q t₂, Value.float r t₃].toArray.size == [Value.float x₁ u₁, Value.float x₂ u₂, Value.float x₃ u₃].toArray.size) = decide (cutV d = z) := by
    cases decide (cutV d = z) <;> rfl
  rw [e] at key
  exact EqAt.of_refs hbc key
theorem countP_cut {n : Nat} {z : Int} : ∀ {ys : List Value} {ds : List Int}, All2 (CutAt g n) ys ds → ys.countP (isCut g z) = ds.countP fun d => decide (cutV d = z)
  | _, _, .nil => rfl
  | _, _, .cons h r => by rw [List.countP_cons, List.countP_cons, countP_cut r, isCut_eq h]
theorem cut_one (d : Int) : decide (cutV d = one') = decide (0 < d) := by
  have := one_pos
  unfold cutV
  by_cases h : 1 ≤ d
  · rw [if_pos h]; simp; omega
  · rw [if_neg h]
    have h1 : ¬ (0 : Int) = one' := by omega
    have h2 : ¬ 0 < d := by omega
    simp [h1, h2]
theorem cut_zero (d : Int) : decide (cutV d = 0) = !decide (0 < d) := by
  have := one_pos
  unfold cutV
  by_cases h : 1 ≤ d
  · rw [if_pos h]
    have h1 : ¬ one' = 0 := by omega
    have h2 : 0 < d := by omega
    simp [h1, h2]
  · rw [if_neg h]
    have h2 : ¬ 0 < d := by omega
    simp [h2]
theorem countP_split {α : Type} (p : α → Bool) : ∀ l : List α, l.countP p + l.countP (fun a => !p a) = l.length
  | [] => rfl
  | a :: r => by
    have := countP_split p r
    simp only [List.countP_cons, List.length_cons]
    cases p a <;> simp <;> omega
theorem cnt_of (cs : List Col) (j : Nat) (x : Int) : (cs.map fun c => cmp3 j c - x).countP (fun d => decide (0 < d)) = cntN cs j x := by
  rw [List.countP_map]
  unfold cntN
  congr 1
  funext c
  simp only [Function.comp]
  by_cases h : x < cmp3 j c
  · rw [decide_eq_true h]; exact decide_eq_true (by omega)
  · rw [decide_eq_false h]; exact decide_eq_false (by omega)
end

section
variable {prog : Program} {w : World} {A : Around} {E : Value → Shared → Prop} {s ι : Shared} {g : Heap} {l : List (Addr × Ob)}

theorem layers_spec {n : Nat} {a : Addr} {cs : List Col} {T : Int} {tT : Tok} {Q : Value → Shared → Prop} (D : Led ι g s l) (G : Grd g) (R : Room A (n + 2)) (hrow : RowAt g a cs) (hc1 : 1 ≤ cs.length) (hc5 : cs.length ≤ 5) (hgd : ∀ c ∈ cs, Good T c) (hT : 2 ≤ T) (hT2 : T ≤ 2 ^ 20)
    (h : ∀ r lv ws g' s', Sub g g' → Levels T cs lv → g'.IsList r (List.toArray ws) → All2 (LayAt g') ws (laysOf cs lv) → Led ι g' s' l → Q (.ref r) s') :
    wpAny (model prog w) A (call (.ref 72) [.ref a, .int T tT]) Q E s := by
  refine call_fn (binds := [("row", .ref a), ("top", .int T tT)]) D G G.layers R rfl rfl rfl ?hb ?hk ?hn ?h
  case hb => intro fd h1 h2 h3; unfold bindArgs; rw [h1, h2, h3]; rfl
  case hk => exact fun n => kinds_of (k := n) ⟨.inl rfl, .inl rfl, trivial⟩
  case hn => decide
  intro env A' s' L V R' D'
  replace D' : Led ι g s' ((L, .ns (upd (upd (fun _ => none) "row" (.ref a)) "top" (.int T tT))) :: (L + 1 + 1 + 1, .cell none) :: (L + 1 + 1, .cell none) :: (L + 1, .cell none) :: l) := D'
  replace V : EnvIs env L [("row", .local), ("top", .local), ("levels", .cell), ("part", .local), ("layers", .local), ("k", .cell), ("votes", .local), ("j", .cell), ("cuts", .local), ("sorted", .globalImplicit), ("range", .globalImplicit), ("len", .globalImplicit)]
    [("j", L + 1 + 1 + 1), ("k", L + 1 + 1), ("levels", L + 1)] := V
  clear D
  conv in (bodyOf (defAt 10)) => whnf
  obtain ⟨vs, hrow1, hrow2⟩ := hrow
  have hvs := hrow2.length
  repeat walk_at "mq"
  refine x_for (by intro _; rfl) ?_
  repeat walk_at "mq"
  (rename Led _ _ _ _ => D0)
  obtain ⟨lvA, t0, D1⟩ : ∃ lvA t0, Led ι g _ ((L, Ob.ns (upd (upd (fun _ => none) "row" (.ref a)) "top" (.int T tT))) :: (lvA, Ob.list [.int 0 t0]) :: (L + 1 + 1 + 1, Ob.cell none) :: (L + 1 + 1, Ob.cell none) :: (L + 1, Ob.cell (some (.ref lvA))) :: l) := ⟨_, _, D0⟩
  clear D0
  refine e_comp2 V (cl := []) rfl rfl (by decide) (by intro _; rfl) ?_
  repeat walk_at "mq"
  refine it_list D1 hrow1 fun I s2 D2 => ?_
  clear D1
  refine comp2_run V (iter_list R'.handled hrow1) (fun i g ys => ∃ ks : List Int, IntsAre ys ks ∧ ks = flat3 (cs.take i)) D2 ⟨[], .nil, rfl⟩ rfl rfl (by intro _; rfl) (by intro _; rfl) (by intro _ _; rfl) ?done ?turn
  case turn =>
    intro cenv C i v g1 ys mc a1 tl s3 VC hlt hP hg1 hJ D3
    obtain ⟨ks, hk1, hk2⟩ := hJ
    clear D2
    replace VC : EnvIs cenv C [(".0", .local), ("colour", .local), ("part", .local)] [] := VC
    obtain ⟨c, hc, hca⟩ := hrow2.get hP
    obtain ⟨b, u1, u2, u3, rfl, hb⟩ := hca
    have hb' := hb.keeps hg1
    refine a_name ?_
    walk_at "mq"
    repeat walk_at "mq"
    (rename Led _ _ _ _ => D4)
    refine it_tup D4 hb' fun I1 s5 D5 => ?_
    have D6 := D5.perm (List.Perm.cons _ (List.Perm.swap _ _ _))
    refine start2_1 ?hl ((iter_tup (prog := prog) (w := w) R'.handled hb').self 0 I1 ι _ g1 _ _ _ D5 ?hl)
    case hl =>
      refine inner2 (iter_tup R'.handled hb') (f₀ := [(C, _)]) (fun j g f zs => ∃ mc', f = [(C, .ns mc')] ∧ ∃ ks : List Int, IntsAre zs ks ∧ ks = flat3 (cs.take i) ++ [c.1, c.2.1, c.2.2].take j) D6 ⟨_, rfl, ks, hk1, by simp [hk2]⟩ ?_ (by intro _; rfl) ?_ ?_
      · rintro j g2 f zs hj ⟨mc', _, ks', h1, h2⟩
        rw [h1.length, h2, List.length_append, flat3_length, List.length_take]
        have : ([c.1, c.2.1, c.2.2].take j).length ≤ 3 := by rw [List.length_take]; exact Nat.min_le_right _ _
        exact Nat.le_trans (show _ ≤ 20 by omega) (by decide)
      · rintro j v g2 f zs tl2 s7 hj hP2 hg2 ⟨mc', rfl, ks', h1, h2⟩ D7
        replace D7 : Led ι g2 s7 ((C, .ns mc') :: tl2) := D7
        have hj3 : j < 3 := hj
        obtain ⟨z, u, hz, rfl⟩ : ∃ z u, [c.1, c.2.1, c.2.2][j]? = some z ∧ v = .int z u := by
          have : j = 0 ∨ j = 1 ∨ j = 2 := lt3 hj
          rcases this with rfl | rfl | rfl
          · exact ⟨_, _, rfl, (Option.some.inj hP2).symm⟩
          · exact ⟨_, _, rfl, (Option.some.inj hP2).symm⟩
          · exact ⟨_, _, rfl, (Option.some.inj hP2).symm⟩
        refine a_name ?_
        walk_at "mq"
        repeat walk_at "mq"
        (rename Led _ _ _ _ => D8)
        refine ⟨g2, _, Sub.refl _, ⟨_, rfl, ks' ++ [z], h1.append (.cons _ _ .nil), ?_⟩, D8⟩
        rw [h2, List.append_assoc, List.take_add_one, hz]; rfl
      · rintro g2 f zs s7 hg2 ⟨mc', rfl, ks', h1, h2⟩ D7
        refine ⟨g2, mc', zs, hg2, ⟨ks', h1, ?_⟩, D7.perm (List.Perm.swap _ _ _)⟩
        rw [h2, flat3_take cs hc]; rfl
  case done =>
    intro a2 g1 ys s3 hg1 hJ D3
    clear D2
    obtain ⟨ks, hk1, hk2⟩ := hJ
    rw [hvs, List.take_of_length_le (Nat.le_refl _)] at hk2
    subst hk2
    have D4 := D3.perm (List.Perm.swap _ _ _)
    clear D3
    have G1 := G.mono hg1
    repeat walk_at "mq"
    (rename Led _ _ _ _ => D5)
    have hys : ys.length = 3 * cs.length := by rw [hk1.length, flat3_length]
    refine l_add D5 (by walk_at "mq lst") (by walk_at "mq lst") (by rw [hys]; exact Nat.le_trans (show _ ≤ 20 by simp; omega) (by decide)) fun a4 s6 D6 => ?_
    clear D5
    repeat walk_at "mq"
    refine b_sorted D6 (by walk_at "mq lst") (hk1.append (.cons T tT .nil)) (by simp [hys]; omega) fun r5 ys5 ms s7 b1 b2 b3 D7 => ?_
    clear D6
    obtain ⟨g2, hg2, D8, hr5⟩ := Led.freezeAt (pre := [_]) D7
    have D9 := D8.sublist (.cons₂ _ (.cons _ (.cons _ (.cons _ (.refl _)))))
    clear D7 D8
    have hr5' : g2.IsList r5 ys5.toArray := Heap.PlainList.isList hr5
    have G2 := G1.mono hg2
    have hms : ms.length ≤ 16 := by rw [b2.length_eq, List.length_append, flat3_length]; simp; omega
    have hy5 : ys5.length = ms.length := b1.length
    refine it_list D9 hr5' fun I2 s10 D10 => ?_
    clear D9
    have hmT : ∀ p ∈ ms, 0 ≤ p ∧ p ≤ T := by
      intro p hp
      rcases List.mem_append.mp (b2.mem_iff.mp hp) with hp | hp
      · obtain ⟨c, hc, hx⟩ := mem_flat3.mp hp
        have := hgd c hc
        unfold Good at this
        rcases hx with rfl | rfl | rfl
        · exact this.1
        · exact this.2.1
        · exact this.2.2
      · simp at hp; subst hp; omega
    refine for_iter (iter_list R'.handled hr5') (f₀ := [_, _, _, _, _]) (l := l) (fun i g f => ∃ (m : Str → Option Value) (lvs : List Value) (lv : List Int), f = [(L, Ob.ns m), (lvA, Ob.list lvs), (L + 1 + 1 + 1, Ob.cell none), (L + 1 + 1, Ob.cell none), (L + 1, Ob.cell (some (.ref lvA)))] ∧ m "row" = some (.ref a) ∧ IntsAre lvs lv ∧ LevInv T (ms.take i) lv) D10
      ⟨_, _, [0], rfl, by walk_at "mq look", .cons 0 _ .nil, by simpa using LevInv.start T (by omega)⟩ (by intro _; rfl) ?turn ?done
    case turn =>
      rintro i v g3 f tl s11 hlt hP hg3 ⟨m, lvs, lv, rfl, hm1, hlv, hinv⟩ D11
      clear D10
      replace D11 : Led ι g3 s11 ((L, Ob.ns m) :: (lvA, Ob.list lvs) :: (L + 1 + 1 + 1, Ob.cell none) :: (L + 1 + 1, Ob.cell none) :: (L + 1, Ob.cell (some (.ref lvA))) :: tl) := D11
      obtain ⟨p, hp⟩ : ∃ p, ms[i]? = some p := ⟨ms[i]'(by omega), List.getElem?_eq_getElem (by omega)⟩
      obtain ⟨up, hyp⟩ := IntsAre.item b1 hp
      have hv : v = .int p up := by
        have e : ys5[i]? = some v := hP
        rw [hyp] at e; exact (Option.some.inj e).symm
      subst hv
      have hpT := hmT p (List.mem_of_getElem? hp)
      have hne := hinv.ne
      have hlen := hinv.len
      rw [List.length_take] at hlen
      obtain ⟨z, hz⟩ : ∃ z, lv.getLast? = some z := by
        cases hq : lv.getLast? with
        | none => rw [List.getLast?_eq_none_iff] at hq; subst hq; simp at hne
        | some z => exact ⟨z, rfl⟩
      have hz' := hz
      rw [List.getLast?_eq_getElem?] at hz'
      obtain ⟨uz, hlz⟩ := IntsAre.item hlv hz'
      have hll : lvs.length = lv.length := hlv.length
      have htk : ms.take (i + 1) = ms.take i ++ [p] := by rw [List.take_add_one, hp]; rfl
      refine a_name ?_
      walk_at "mq"
      repeat walk_at "mq"
      refine e_usub ?_
      repeat walk_at "mq"
      (rename Led _ _ _ _ => D12)
      refine i_neg D12 fun t13 s13 D13 => ?_
      clear D12
      refine s_neg (by walk_at "mq lst") (by decide) (by omega) (by decide) (by rw [show (-1 + (lvs.length : Int)).toNat = lv.length - 1 by omega]; exact hlz) (by with_unfolding_all rfl) ?_
      repeat walk_at "mq"
      by_cases hlt2 : z < p
      · refine if_t (decide_eq_true hlt2) ?_
        refine x_expr V.inter rfl (e_append rfl rfl rfl rfl ?_)
        repeat walk_at "mq"
        (rename Led _ _ _ _ => D14)
        refine ⟨lvA, _, rfl, D14.plainL (by walk_at "mq mem"), ?_⟩
        repeat walk_at "mq"
        refine b_append (pre := [_]) D14 (by rw [hll]; exact Nat.le_trans (show _ ≤ 20 by omega) (by decide)) fun s15 D15 => ⟨rfl, ?_⟩
        repeat walk_at "mq"
        refine ⟨rfl, g3, _, Sub.refl _, ⟨_, _, _, rfl, by walk_at "mq look", hlv.append (.cons p _ .nil), ?_⟩, D15⟩
        rw [htk]; exact hinv.grow hz hlt2 hpT
      · refine if_f (decide_eq_false hlt2) ?_
        repeat walk_at "mq"
        refine ⟨rfl, g3, _, Sub.refl _, ⟨_, _, _, rfl, by walk_at "mq look", hlv, ?_⟩, D13⟩
        rw [htk]
        refine hinv.keep hz hlt2 (fun q hq => ?_) hpT.1
        obtain ⟨j, hj1, hj2⟩ := List.mem_take_iff_getElem.mp hq
        have := List.pairwise_iff_getElem.mp b3 j i (by omega) (by omega) (by omega)
        rw [List.getElem?_eq_getElem (by omega)] at hp
        have e := Option.some.inj hp
        rw [← e, ← hj2]; exact this
    case done =>
      rintro g3 f s11 hg3 ⟨m, lvs, lv, rfl, hm1, hlv, hinv⟩ D11
      clear D10
      replace D11 : Led ι g3 s11 ((L, Ob.ns m) :: (lvA, Ob.list lvs) :: (L + 1 + 1 + 1, Ob.cell none) :: (L + 1 + 1, Ob.cell none) :: (L + 1, Ob.cell (some (.ref lvA))) :: l) := D11
      rw [hy5, List.take_of_length_le (Nat.le_refl _)] at hinv
      have hlevs := hinv.levels b2
      have hll : lvs.length = lv.length := hlv.length
      have hlen := hinv.len
      obtain ⟨g4, hg4, D12, hlA⟩ := Led.freezeAt (pre := [_]) D11
      clear D11
      have hlA' : g4.IsList lvA lvs.toArray := Heap.PlainList.isList hlA
      have hg04 : Sub g g4 := hg1.trans (hg2.trans (hg3.trans hg4))
      have G4 := G.mono hg04
      have hrowg : g4.IsList a vs.toArray := hrow1.at fun o e => hg04 _ _ e
      replace D12 : Led ι g4 s11 ((L, Ob.ns m) :: (L + 1 + 1 + 1, Ob.cell none) :: (L + 1 + 1, Ob.cell none) :: (L + 1, Ob.cell (some (.ref lvA))) :: l) := D12
      repeat walk_at "mq"
      refine x_for (by intro _; rfl) ?_
      repeat walk_at "mq"
      (rename Led _ _ _ _ => D13)
      refine b_len D13 (by walk_at "mq lst") (by omega) ?_
      clear D13; intro t14 s14 D14
      rw [hll]
      repeat walk_at "mq"
      refine call_rng2 D14 fun r15 s15 D15 => ?_
      refine it_range' (n := lv.length - 1) D15 (small_one (by decide) (by decide) (by omega) (by omega)) (by rw [rangeSize_nat]; omega) fun I16 s16 D16 => ?_
      clear D14 D15
      obtain ⟨layA, D17⟩ : ∃ layA, Led ι g4 s16 ((I16, Ob.riter (1 + ((0 : Nat) : Int) * 1) (((lv.length - 1 : Nat) : Int) - ((0 : Nat) : Int)) 1) :: ([(L, Ob.ns (upd m "layers" (.ref layA))), (layA, Ob.list []), (L + 1 + 1 + 1, Ob.cell none), (L + 1 + 1, Ob.cell none), (L + 1, Ob.cell (some (.ref lvA)))] ++ l)) := ⟨_, D16⟩
      clear D16
      refine for_iter (iter_range R'.handled 1 1 (lv.length - 1)) (fun i g f => ∃ (m : Str → Option Value) (ws : List Value) (jv kv : Option Value), f = [(L, Ob.ns m), (layA, Ob.list ws), (L + 1 + 1 + 1, Ob.cell jv), (L + 1 + 1, Ob.cell kv), (L + 1, Ob.cell (some (.ref lvA)))] ∧ m "row" = some (.ref a) ∧ m "layers" = some (.ref layA) ∧ All2 (LayAt g) ws ((laysOf cs lv).take i)) D17
        ⟨_, _, _, _, rfl, by walk_at "mq look", by walk_at "mq look", .nil⟩ (by intro _; rfl) ?turn ?done
      case done =>
        rintro g5 f s18 hg5 ⟨m5, ws, jv, kv, rfl, hm5, hm6, ha⟩ D18
        clear D17
        replace D18 : Led ι g5 s18 ((L, Ob.ns m5) :: (layA, Ob.list ws) :: (L + 1 + 1 + 1, Ob.cell jv) :: (L + 1 + 1, Ob.cell kv) :: (L + 1, Ob.cell (some (.ref lvA))) :: l) := D18
        repeat walk_at "mq"
        (rename Led _ _ _ _ => D19)
        obtain ⟨g6, hg6, D20, hx⟩ := Led.freezeAt (pre := [_]) D19
        rw [List.take_of_length_le (by rw [laysOf_length]; exact Nat.le_refl _)] at ha
        exact h layA lv ws g6 _ (hg04.trans (hg5.trans hg6)) hlevs (Heap.PlainList.isList hx) (ha.mono fun _ _ q => q.mono hg6) D20.drop1.drop1.drop1.drop1
      case turn =>
        rintro i v g5 f tl s18 hlt ⟨tv, rfl⟩ hg5 ⟨m5, ws, jv, kv, rfl, hm5, hm6, ha⟩ D18
        clear D17
        replace D18 : Led ι g5 s18 ((L, Ob.ns m5) :: (layA, Ob.list ws) :: (L + 1 + 1 + 1, Ob.cell jv) :: (L + 1 + 1, Ob.cell kv) :: (L + 1, Ob.cell (some (.ref lvA))) :: tl) := D18
        have hi2 : i + 1 < lv.length := by omega
        obtain ⟨x, hx⟩ : ∃ x, lv[i]? = some x := ⟨lv[i]'(by omega), List.getElem?_eq_getElem (by omega)⟩
        obtain ⟨y, hy⟩ : ∃ y, lv[i + 1]? = some y := ⟨lv[i + 1]'(by omega), List.getElem?_eq_getElem (by omega)⟩
        obtain ⟨ux, hlx⟩ := IntsAre.item hlv hx
        obtain ⟨uy, hly⟩ := IntsAre.item hlv hy
        have hxT := hinv.rng x (List.mem_of_getElem? hx)
        have e1 : (1 + (i : Int) * 1 - 1).toNat = i := by omega
        have e2 : (1 + (i : Int) * 1).toNat = i + 1 := by omega
        have G5 := G4.mono hg5
        have hlA5 : g5.IsList lvA lvs.toArray := hlA'.at fun o e => hg5 _ _ e
        refine a_name ?_
        walk_at "mq"
        repeat walk_at "mq"
        refine x_for (by intro _; rfl) ?_
        repeat walk_at "mq"
        (rename Led _ _ _ _ => D19)
        refine call_rng1 D19 fun r20 s20 D20 => ?_
        refine it_range' (n := 3) D20 (by decide +kernel) (by decide +kernel) fun I21 s21 D21 => ?_
        clear D19 D20
        obtain ⟨vtA, D22⟩ : ∃ vtA, Led ι g5 s21 ((I21, Ob.riter (0 + ((0 : Nat) : Int) * 1) (((3 : Nat) : Int) - ((0 : Nat) : Int)) 1) :: ([(L, Ob.ns (upd m5 "votes" (.ref vtA))), (vtA, Ob.list []), (layA, Ob.list ws), (L + 1 + 1 + 1, Ob.cell jv), (L + 1 + 1, Ob.cell (some (.int (1 + (i : Int) * 1) tv))), (L + 1, Ob.cell (some (.ref lvA)))] ++ tl)) := ⟨_, D21⟩
        clear D21
        refine for_iter (iter_range R'.handled 0 1 3) (fun j g f => ∃ (m : Str → Option Value) (zs : List Value) (jv : Option Value), f = [(L, Ob.ns m), (vtA, Ob.list zs), (layA, Ob.list ws), (L + 1 + 1 + 1, Ob.cell jv), (L + 1 + 1, Ob.cell (some (.int (1 + (i : Int) * 1) tv))), (L + 1, Ob.cell (some (.ref lvA)))] ∧ m "row" = some (.ref a) ∧ m "layers" = some (.ref layA) ∧ m "votes" = some (.ref vtA) ∧ IntsAre zs ((votesOf cs x).take j)) D22
          ⟨_, _, _, rfl, by walk_at "mq look", by walk_at "mq look", by walk_at "mq look", .nil⟩ (by intro _; rfl) ?turn2 ?done2
        case done2 =>
          rintro g6 f s23 hg6 ⟨m6, zs, jv6, rfl, hm7, hm8, hm9, hzs⟩ D23
          clear D22
          replace D23 : Led ι g6 s23 ((L, Ob.ns m6) :: (vtA, Ob.list zs) :: (layA, Ob.list ws) :: (L + 1 + 1 + 1, Ob.cell jv6) :: (L + 1 + 1, Ob.cell (some (.int (1 + (i : Int) * 1) tv))) :: (L + 1, Ob.cell (some (.ref lvA))) :: tl) := D23
          have hzs3 : IntsAre zs (votesOf cs x) := hzs
          have hlA6 : g6.IsList lvA lvs.toArray := hlA5.at fun o e => hg6 _ _ e
          have hwl := ha.length
          rw [List.length_take, laysOf_length] at hwl
          repeat walk_at "mq"
          refine x_expr V.inter rfl (e_append rfl rfl rfl rfl ?_)
          repeat walk_at "mq"
          (rename Led _ _ _ _ => D24)
          refine ⟨layA, _, rfl, D24.plainL (by walk_at "mq mem"), ?_⟩
          repeat walk_at "mq"
          refine s_list (by walk_at "mq lst") (by omega) (by omega) (by rw [e2]; exact hly) (by with_unfolding_all rfl) ?_
          repeat walk_at "mq"
          refine s_list (by walk_at "mq lst") (by omega) (by omega) (by rw [e1]; exact hlx) (by with_unfolding_all rfl) ?_
          repeat walk_at "mq"
          (rename Led _ _ _ _ => D25)
          refine b_append (pre := [_, _, _]) D25 (by rw [hwl]; exact Nat.le_trans (show _ ≤ 20 by omega) (by decide)) fun s26 D26 => ⟨rfl, ?_⟩
          repeat walk_at "mq"
          obtain ⟨g7, hg7, D27, hq1⟩ := Led.freezeAt (pre := [_]) D26
          obtain ⟨g8, hg8, D28, hq2⟩ := Led.freezeAt (pre := [_]) D27
          refine ⟨rfl, g8, _, hg6.trans (hg7.trans hg8), ⟨_, _, _, _, rfl, by walk_at "mq look", by walk_at "mq look", ?_⟩, D28⟩
          rw [List.take_add_one, laysOf_get cs lv i x y hx hy]
          exact (ha.mono fun _ _ q => q.mono (hg6.trans (hg7.trans hg8))).snoc ⟨_, _, _, zs, rfl, (PTup.isTup hq1).keeps hg8, Heap.PlainList.isList hq2, hzs3⟩
        case turn2 =>
          rintro j v g6 f tl2 s23 hj ⟨tj, rfl⟩ hg6 ⟨m6, zs, jv6, rfl, hm7, hm8, hm9, hzs⟩ D23
          clear D22
          replace D23 : Led ι g6 s23 ((L, Ob.ns m6) :: (vtA, Ob.list zs) :: (layA, Ob.list ws) :: (L + 1 + 1 + 1, Ob.cell jv6) :: (L + 1 + 1, Ob.cell (some (.int (1 + (i : Int) * 1) tv))) :: (L + 1, Ob.cell (some (.ref lvA))) :: tl2) := D23
          have hlA6 : g6.IsList lvA lvs.toArray := hlA5.at fun o e => hg6 _ _ e
          have hrow6 : g6.IsList a vs.toArray := hrowg.at fun o e => hg6 _ _ (hg5 _ _ e)
          have hcols6 : All2 (ColAt g6) vs cs := hrow2.mono fun _ _ q => q.mono (hg04.trans (hg5.trans hg6))
          have G6 := G5.mono hg6
          have hzl : zs.length = j := by rw [hzs.length, List.length_take]; show min j 3 = j; omega
          have e3 : (0 + (j : Int) * 1).toNat = j := nat_turn j
          have hvj := votesOf_get cs x hj
          refine a_name ?_
          walk_at "mq"
          (rename Led _ _ _ _ => D24)
          refine x_comp V (cl := [("levels", L + 1), ("k", L + 1 + 1), ("j", L + 1 + 1 + 1)]) rfl rfl (by decide) (by intro _; rfl) rfl rfl rfl ?_
          repeat walk_at "mq"
          refine it_list D24 hrow6 fun I25 s25 D25 => ?_
          clear D24
          refine comp_use (K := fun s' => wpAny (model prog w) A' (execs _ env) _ _ s') V (iter_list R'.handled hrow6) (fun q g ys n => All2 (CutAt g n) ys ((cs.map fun c => cmp3 j c - x).take q)) (fun _ _ _ _ _ hn q => q.mono fun _ _ q => q.mono (Sub.refl _) hn) D25
            .nil rfl (by decide) (by rw [hvs]; exact Nat.le_trans hc5 (by decide)) (fun q g' ys n' hq hJ => by rw [hJ.length, List.length_take]; exact Nat.min_le_left _ _) (by intro _; rfl) rfl ?done3 ?turn3
          case turn3 =>
            intro cenv C q v g7 ys mc cm tl3 s26 VC hlt2 hP hg7 hJ DC
            clear D25
            replace VC : EnvIs cenv C [(".0", .local), ("colour", .local), ("yiq_to_rgb", .globalImplicit), ("j", .cell), ("k", .cell), ("levels", .cell)] [("levels", L + 1), ("k", L + 1 + 1), ("j", L + 1 + 1 + 1)] := VC
            replace DC : Led ι g7 s26 ((C, Ob.ns mc) :: (L, Ob.ns m6) :: (vtA, Ob.list zs) :: (layA, Ob.list ws) :: (L + 1 + 1 + 1, Ob.cell (some (.int (0 + (j : Int) * 1) tj))) :: (L + 1 + 1, Ob.cell (some (.int (1 + (i : Int) * 1) tv))) :: (L + 1, Ob.cell (some (.ref lvA))) :: (tl2 ++ tl3)) := DC
            have hι := DC.pos
            replace DC := DC.raise
            obtain ⟨c, hc, hca⟩ := hcols6.get hP
            obtain ⟨b, u1, u2, u3, rfl, hb⟩ := hca
            have hb7 := hb.keeps hg7
            have hlA7 : g7.IsList lvA lvs.toArray := hlA6.at fun o e => hg7 _ _ e
            have G7 := G6.mono hg7
            have hcT := hgd c (List.mem_of_getElem? hc)
            obtain ⟨uj, hcj⟩ : ∃ uj, [Value.int c.1 u1, Value.int c.2.1 u2, Value.int c.2.2 u3][j]? = some (.int (cmp3 j c) uj) := by
              have : j = 0 ∨ j = 1 ∨ j = 2 := lt3 hj
              rcases this with rfl | rfl | rfl
              · exact ⟨_, rfl⟩
              · exact ⟨_, rfl⟩
              · exact ⟨_, rfl⟩
            have hcb : 0 ≤ cmp3 j c ∧ cmp3 j c ≤ T := by
              unfold Good at hcT
              have : j = 0 ∨ j = 1 ∨ j = 2 := lt3 hj
              rcases this with rfl | rfl | rfl
              · exact hcT.1
              · exact hcT.2.1
              · exact hcT.2.2
            have hsi : seqIndex? (0 + (j : Int) * 1) [Value.int c.1 u1, Value.int c.2.1 u2, Value.int c.2.2 u3].length = some j := by
              have : j = 0 ∨ j = 1 ∨ j = 2 := lt3 hj
              rcases this with rfl | rfl | rfl <;> rfl
            refine a_name ?_
            walk_at "mq"
            refine ts_nil (if_t rfl ?_)
            repeat walk_at "mq"
            refine cw_fn G7.yiq rfl ?_
            repeat walk_at "mq"
            (rename Led _ _ _ _ => D27)
            refine s_tup (D27.tpG hb7) (by omega) (by omega) hsi hcj (by with_unfolding_all rfl) ?_
            repeat walk_at "mq"
            refine s_list (by walk_at "mq lst") (by omega) (by omega) (by rw [e1]; exact hlx) (by with_unfolding_all rfl) ?_
            repeat walk_at "mq"
            (rename Led _ _ _ _ => D28)
            refine ⟨D28.sub, yiq_spec D28 G7 R' (by omega) fun a5 p1 p2 p3 w1 w2 w3 s29 κ r1 r2 r3 z1 z2 z3 q1 q2 q3 hκ D29 => ?_⟩
            have hκ2 : κ ≤ s29.toks := D29.pos.2
            have hκ3 : s26.toks ≤ κ := hκ
            replace D29 : Led (bump ι κ) g7 s29 _ := D29
            obtain ⟨g8, hg8, D30, hq1⟩ := Led.freezeAt (pre := []) (D29.low hι.1 (Nat.le_trans hι.2 hκ3))
            refine ⟨g8, _, cm, hg8, ?_, D30⟩
            have hmp : (cs.map fun c => cmp3 j c - x)[q]? = some (cmp3 j c - x) := by rw [List.getElem?_map, hc]; rfl
            rw [List.take_add_one, hmp]
            refine (hJ.mono fun _ _ q => q.mono hg8 ?_).snoc ⟨_, _, _, _, _, _, _, rfl, PTup.isTup hq1, ⟨r1, r2, r3⟩, ⟨z1, z2, z3⟩, ?_, ?_, ?_⟩
            · exact Nat.le_trans hκ3 hκ2
            · exact Nat.lt_of_lt_of_le q1 hκ2
            · exact Nat.lt_of_lt_of_le q2 hκ2
            · exact Nat.lt_of_lt_of_le q3 hκ2
          case done3 =>
            intro cA g7 ys s26 hg7 hJ D26
            clear D25
            rw [hvs, List.take_of_length_le (by simp)] at hJ
            have hι := D26.pos
            replace D26 : Led (bump ι s26.toks) g7 s26 ((L, Ob.ns (upd m6 "cuts" (.ref cA))) :: (cA, Ob.list ys) :: (vtA, Ob.list zs) :: (layA, Ob.list ws) :: (L + 1 + 1 + 1, Ob.cell (some (.int (0 + (j : Int) * 1) tj))) :: (L + 1 + 1, Ob.cell (some (.int (1 + (i : Int) * 1) tv))) :: (L + 1, Ob.cell (some (.ref lvA))) :: tl2) := D26.raise
            have G7 := G6.mono hg7
            have hrow7 : g7.IsList a vs.toArray := hrow6.at fun o e => hg7 _ _ e
            have hyl : ys.length = cs.length := by rw [hJ.length, List.length_map]
            have hun : A'.in1.in1.units < cLine := by have := R'.units; show A'.units + 1 + 1 < cLine; omega
            refine x_expr V.inter rfl (e_append rfl rfl rfl rfl ?_)
            repeat walk_at "mq"
            refine ⟨vtA, _, rfl, D26.plainL (by walk_at "mq mem"), ?_⟩
            refine e_count rfl rfl rfl rfl ?_
            repeat walk_at "mq"
            refine ⟨cA, _, rfl, D26.plainL (by walk_at "mq mem"), ?_⟩
            refine e_tup (sp_more rfl (c_floatK D26 fun w1 s27 o1 z1 D27 => sp_more rfl (c_floatK D27 fun w2 s28 o2 z2 D28 => sp_more rfl (c_floatK D28 fun w3 s29 o3 z3 D29 => sp_end (n_tup D29 (Nat.le_of_ble_eq_true rfl) fun tA s30 D30 => ?_)))))
            clear D27 D28 D29
            have bk : NoneBooked s30.heap := let ⟨mc, n1, n2⟩ := G7.booked; ⟨mc, n1.keeps D30.sub, n2⟩
            have hoff : g7.get? tA = none := D30.off (tA, _) (List.mem_cons_of_mem _ List.mem_cons_self)
            refine b_count (isCut g7 one') D30 (by walk_at "mq lst") (fun y hy => by
              obtain ⟨d, _, hd⟩ := hJ.mem hy
              exact cut_eqAt hd D30.sub bk (D30.tp (List.mem_cons_of_mem _ List.mem_cons_self)) ⟨rep_one, rep_one, rep_one⟩ ⟨z1, z2, z3⟩ ⟨o1, by omega, by omega⟩ hoff hun) fun t31 s31 D31 => ?_
            clear D30
            have hc1' : ys.countP (isCut g7 one') = cntN cs j x := by
              rw [countP_cut hJ, ← cnt_of]
              congr 1; funext d; exact cut_one d
            rw [hc1']
            refine b_append (pre := [_, _, _]) D31 (by rw [hzl]; exact Nat.le_trans (show _ ≤ 20 by omega) (by decide)) fun s32 D32 => ⟨rfl, ?_⟩
            clear D31
            have D33 := D32.sublist (.cons₂ _ (.cons _ (.refl _)))
            clear D32
            replace D33 : Led (bump ι (w3 + 1)) g7 s32 ((L, Ob.ns (upd m6 "cuts" (.ref cA))) :: (cA, Ob.list ys) :: (vtA, Ob.list (zs ++ [.int (cntN cs j x : Nat) t31])) :: (layA, Ob.list ws) :: (L + 1 + 1 + 1, Ob.cell (some (.int (0 + (j : Int) * 1) tj))) :: (L + 1 + 1, Ob.cell (some (.int (1 + (i : Int) * 1) tv))) :: (L + 1, Ob.cell (some (.ref lvA))) :: tl2) := D33
            repeat walk_at "mq"
            refine s_list (x := .int (cntN cs j x : Nat) t31) (by walk_at "mq lst") (by omega) (by omega) (by rw [e3, List.getElem?_append_right (by omega), hzl]; simp) (by with_unfolding_all rfl) ?_
            refine e_count rfl rfl rfl rfl ?_
            repeat walk_at "mq"
            refine ⟨cA, _, rfl, D33.plainL (by walk_at "mq mem"), ?_⟩
            refine e_tup (sp_more rfl (c_floatK D33 fun v1 s34 p1 y1 D34 => sp_more rfl (c_floatK D34 fun v2 s35 p2 y2 D35 => sp_more rfl (c_floatK D35 fun v3 s36 p3 y3 D36 => sp_end (n_tup D36 (Nat.le_of_ble_eq_true rfl) fun tB s37 D37 => ?_)))))
            clear D33 D34 D35 D36
            have bk2 : NoneBooked s37.heap := let ⟨mc, n1, n2⟩ := G7.booked; ⟨mc, n1.keeps D37.sub, n2⟩
            have hoff2 : g7.get? tB = none := D37.off (tB, _) (List.mem_cons_of_mem _ List.mem_cons_self)
            refine b_count (isCut g7 0) D37 (by walk_at "mq lst") (fun y hy => by
              obtain ⟨d, _, hd⟩ := hJ.mem hy
              exact cut_eqAt hd D37.sub bk2 (D37.tp (List.mem_cons_of_mem _ List.mem_cons_self)) ⟨rep_zero, rep_zero, rep_zero⟩ ⟨y1, y2, y3⟩ ⟨by omega, by omega, by omega⟩ hoff2 hun) fun t38 s38 D38 => ?_
            clear D37
            have hc2 : cntN cs j x + ys.countP (isCut g7 0) = cs.length := by
              rw [countP_cut hJ, ← cnt_of]
              have e : (fun d => decide (cutV d = 0)) = fun d : Int => !decide (0 < d) := by funext d; exact cut_zero d
              rw [e, countP_split, List.length_map]
            repeat walk_at "mq"
            (rename Led _ _ _ _ => D39)
            refine b_len D39 (D39.lstG hrow7) (by omega) ?_
            clear D39; intro t40 s40 D40
            rw [hvs]
            repeat walk_at "mq"
            refine if_f (by rw [← hc2]; simp) ?_
            repeat walk_at "mq"
            have D41 := (D40.sublist (.cons₂ _ (.cons _ (.cons _ (.refl _)))))
            replace D41 := D41.low (ι := ι) hι.1 (by omega)
            refine ⟨rfl, g7, _, hg7, ⟨_, _, _, rfl, by walk_at "mq look", by walk_at "mq look", by walk_at "mq look", ?_⟩, D41⟩
            rw [List.take_add_one, hvj]
            exact hzs.append (.cons _ _ .nil)
end

noncomputable def itemOf (xs : List Int) (k : Nat) : Int := (xs[k]?).getD 0
noncomputable def bitsOf (v : Nat → Bool) (i : Nat) : List Int := ((List.range i).filter v).map fun j => (2 : Int) ^ j
noncomputable def votesFor (vs : List Int) (least : Int) (j : Nat) : Bool := decide (least ≤ itemOf vs j)
noncomputable def codeOf (vs : List Int) (least : Int) : Int := (bitsOf (votesFor vs least) 3).sum
noncomputable def cornerOf (code : Int) : Nat := match code with | 2 => 2 | 3 => 1 | 4 => 4 | 5 => 5 | 6 => 3 | _ => 0
structure Cnt where
  black : Int
  white : Int
  cor : List Int
noncomputable def Cnt.start : Cnt := ⟨0, 0, [0, 0, 0, 0, 0, 0, 0]⟩
noncomputable def Cnt.step (least : Int) (c : Cnt) (y : Int × List Int) : Cnt :=
  if codeOf y.2 least = 0 then { c with black := c.black + y.1 }
  else if codeOf y.2 least = 7 then { c with white := c.white + y.1 }
  else { c with cor := c.cor.set (cornerOf (codeOf y.2 least)) (itemOf c.cor (cornerOf (codeOf y.2 least)) + y.1) }
noncomputable def Cnt.run (least : Int) (ys : List (Int × List Int)) : Cnt := ys.foldl (Cnt.step least) Cnt.start
/-- red twice: the last corner takes the first one's -/
noncomputable def Cnt.turn (c : Cnt) : Cnt := if 0 < itemOf c.cor 5 then { c with cor := (c.cor.set 6 (itemOf c.cor 0)).set 0 0 } else c
noncomputable def CntAt (g : Heap) (r : Addr) (c : Cnt) : Prop := ∃ b t₁ t₂, ∃ zs : List Value, IsTup g r [.int c.black t₁, .int c.white t₂, .ref b].toArray ∧ g.IsList b zs.toArray ∧ IntsAre zs c.cor
theorem Cnt.step_len (least : Int) (c : Cnt) (y : Int × List Int) (h : c.cor.length = 7) : (c.step least y).cor.length = 7 := by
  unfold Cnt.step
  split
  · exact h
  · split
    · exact h
    · simpa using h
theorem Cnt.run_len (least : Int) : ∀ (ys : List (Int × List Int)), (Cnt.run least ys).cor.length = 7 := by
  intro ys
  unfold Cnt.run
  have : ∀ (ys : List (Int × List Int)) (c : Cnt), c.cor.length = 7 → (ys.foldl (Cnt.step least) c).cor.length = 7 := by
    intro ys
    induction ys with
    | nil => intro c h; exact h
    | cons y r ih => intro c h; exact ih _ (Cnt.step_len least c y h)
  exact this ys _ rfl
theorem Cnt.run_take (least : Int) (ys : List (Int × List Int)) {i : Nat} {y : Int × List Int} (h : ys[i]? = some y) : Cnt.run least (ys.take (i + 1)) = (Cnt.run least (ys.take i)).step least y := by
  unfold Cnt.run
  rw [List.take_add_one, h, List.foldl_append]; rfl
theorem bitsOf_succ (v : Nat → Bool) (i : Nat) : bitsOf v (i + 1) = bitsOf v i ++ (if v i = true then [(2 : Int) ^ i] else []) := by
  unfold bitsOf
  rw [List.range_succ, List.filter_append, List.map_append]
  congr 1
  by_cases h : v i = true <;> simp [h]
theorem bitsOf_len (v : Nat → Bool) (i : Nat) : (bitsOf v i).length ≤ i := by
  unfold bitsOf
  rw [List.length_map]
  exact Nat.le_trans (List.length_filter_le _ _) (by simp)
theorem codeOf_cases (vs : List Int) (least : Int) : codeOf vs least = 0 ∨ codeOf vs least = 7 ∨ (codeOf vs least ∈ [1, 2, 3, 4, 5, 6]) := by
  unfold codeOf
  rw [bitsOf_succ, bitsOf_succ, bitsOf_succ]
  cases votesFor vs least 0 <;> cases votesFor vs least 1 <;> cases votesFor vs least 2 <;> simp [bitsOf]
theorem IntsAre.setAt {xs : List Value} {ns : List Int} (h : IntsAre xs ns) (k : Nat) (v : Int) (t : Tok) : IntsAre (xs.set k (.int v t)) (ns.set k v) := by
  induction h generalizing k with
  | nil => exact .nil
  | cons n t' _ ih =>
    cases k with
    | zero => exact .cons _ _ (by assumption)
    | succ k => exact .cons _ _ (ih k)

theorem Led.arrL {ι : Shared} {g : Heap} {s : Shared} {l : List (Addr × Ob)} (D : Led ι g s l) {a : Addr} {xs : List Value} (hm : (a, Ob.arr xs) ∈ l) : s.heap.IsList a xs.toArray := D.here _ hm
section
variable {prog : Program} {w : World} {A : Around} {E : Value → Shared → Prop} {s ι : Shared} {g : Heap} {l : List (Addr × Ob)}

theorem counted_spec {n : Nat} {a : Addr} {ws : List Value} {lays : List (Int × List Int)} {least : Int} {tl : Tok} {Q : Value → Shared → Prop} (D : Led ι g s l) (G : Grd g) (R : Room A (n + 1)) (hl : g.IsList a ws.toArray) (hw : All2 (LayAt g) ws lays) (h3 : ∀ y ∈ lays, y.2.length = 3)
    (h : ∀ r g' s', Sub g g' → CntAt g' r (Cnt.run least lays).turn → Led ι g' s' l → Q (.ref r) s') :
    wpAny (model prog w) A (call (.ref 77) [.ref a, .int least tl]) Q E s := by
  refine call_fn (binds := [("layers", .ref a), ("least", .int least tl)]) D G G.counted R rfl rfl rfl ?hb ?hk ?hn ?h
  case hb => intro fd h1 h2 h3; unfold bindArgs; rw [h1, h2, h3]; rfl
  case hk => exact fun n => kinds_of (k := n) ⟨.inl rfl, .inr ⟨rfl, rfl⟩, trivial⟩
  case hn => decide
  intro env A' s' L V R' D'
  replace D' : Led ι g s' ((L, .ns (upd (fun _ => none) "layers" (.ref a))) :: (L + 1 + 1, .cell none) :: (L + 1, .cell (some (.int least tl))) :: l) := D'
  replace V : EnvIs env L [("layers", .local), ("least", .cell), ("black", .local), ("white", .local), ("corners", .local), ("thick", .local), ("votes", .cell), ("code", .local), ("sum", .globalImplicit), ("range", .globalImplicit)]
    [("votes", L + 1 + 1), ("least", L + 1)] := V
  clear D
  conv in (bodyOf (defAt 11)) => whnf
  have hwl := hw.length
  refine x_asgSwap (ns := ["black", "white", "corners"]) rfl ?hw ?_
  case hw =>
    obtain ⟨v1, v2, v3, v4, v5, v6⟩ := V
    unfold swappedStores
    rcases env with ⟨sc, e2, e3, e4, e5, e6, e7, e8, e9⟩
    rcases sc with ⟨k1, k2, k3⟩
    simp only at v1 v3
    subst v1 v3
    rfl
  repeat walk_at "mq"
  (rename Led _ _ _ _ => D1)
  rename_i tX1 sX1 tX2 sX2 tZ sX3 aZ sX4 tS sX5
  refine l_mul (i := 0) (xs := [.int 0 tZ]) (ys := [.int 0 tZ, .int 0 tZ, .int 0 tZ, .int 0 tZ, .int 0 tZ, .int 0 tZ, .int 0 tZ]) D1 (by walk_at "mq mem") (by decide) (by decide) (show 1 * 7 ≤ 2 ^ 24 by decide) rfl fun cA s2 D2 => ?_
  clear D1
  repeat walk_at "mq"
  (rename Led _ _ _ _ => D3)
  refine un_tup R'.handled D3 (D3.tp (by walk_at "mq mem")) rfl fun s4 D4 => ?_
  clear D3
  refine ao_cons (b_name ?_)
  repeat walk_at "mq"
  refine ao_cons (b_name ?_)
  repeat walk_at "mq"
  refine ao_cons (b_name ?_)
  repeat walk_at "mq"
  refine ao_nil ?_
  (rename Led _ _ _ _ => D5)
  have D6 := D5.sublist (.cons₂ _ (.cons _ (.cons₂ _ (.cons _ (.refl _)))))
  clear D5
  obtain ⟨t1, t2, t3, D7⟩ : ∃ t1 t2 t3, Led ι g _ ((L, Ob.ns (upd (upd (upd (upd (fun _ => none) "layers" (.ref a)) "corners" (.ref cA)) "white" (.int 0 t1)) "black" (.int 0 t2))) :: (cA, Ob.list [.int 0 t3, .int 0 t3, .int 0 t3, .int 0 t3, .int 0 t3, .int 0 t3, .int 0 t3]) :: (L + 1 + 1, .cell none) :: (L + 1, .cell (some (.int least tl))) :: l) := ⟨_, _, _, D6⟩
  clear D6
  replace D7 := Led.asArr (pre := [_]) D7
  simp only [List.cons_append, List.nil_append] at D7
  refine x_for (by intro _; rfl) ?_
  repeat walk_at "mq"
  refine it_list D7 hl fun I8 s8 D8 => ?_
  clear D7
  refine for_iterT (iter_list R'.handled hl) (f₀ := [_, _, _, _]) (l := l) (fun i g f => ∃ (m : Str → Option Value) (zs : List Value) (v : Option Value) (c : Cnt) (u1 u2 : Tok), f = [(L, Ob.ns m), (cA, Ob.arr zs), (L + 1 + 1, .cell v), (L + 1, .cell (some (.int least tl)))] ∧ m "corners" = some (.ref cA) ∧ m "black" = some (.int c.black u1) ∧ m "white" = some (.int c.white u2) ∧ IntsAre zs c.cor ∧ c = Cnt.run least (lays.take i)) D8
    ⟨_, _, _, ⟨0, 0, [0, 0, 0, 0, 0, 0, 0]⟩, t2, t1, rfl, by walk_at "mq look", by walk_at "mq look", by walk_at "mq look", .cons _ _ (.cons _ _ (.cons _ _ (.cons _ _ (.cons _ _ (.cons _ _ (.cons _ _ .nil)))))), rfl⟩ (fun i v s' g' l' Q D h => go_list D h) ?turn ?done
  case done =>
    rintro g1 f s9 hg1 ⟨m, zs, v, c, u1, u2, rfl, hm1, hm2, hm3, hz, hc⟩ D9
    clear D8
    replace D9 : Led ι g1 s9 ((L, Ob.ns m) :: (cA, Ob.arr zs) :: (L + 1 + 1, .cell v) :: (L + 1, .cell (some (.int least tl))) :: l) := D9
    rw [hwl, List.take_of_length_le (Nat.le_refl _)] at hc
    have hc7 : c.cor.length = 7 := by rw [hc]; exact Cnt.run_len _ _
    have hz7 : zs.length = 7 := by rw [hz.length, hc7]
    have hit : ∀ k, k < 7 → ∃ u, zs[k]? = some (.int (itemOf c.cor k) u) := by
      intro k hk
      refine IntsAre.item hz ?_
      unfold itemOf
      rw [List.getElem?_eq_getElem (by omega)]; rfl
    obtain ⟨u5, h5⟩ := hit 5 (by decide)
    obtain ⟨u0, h0⟩ := hit 0 (by decide)
    repeat walk_at "mq"
    refine s_list (Led.arrL (by assumption) (by walk_at "mq mem")) (by decide) (by decide) h5 (by with_unfolding_all rfl) ?_
    repeat walk_at "mq"
    by_cases h50 : 0 < itemOf c.cor 5
    · refine if_t (decide_eq_true h50) ?_
      refine x_setSub rfl ?_
      repeat walk_at "mq"
      refine s_list (Led.arrL (by assumption) (by walk_at "mq mem")) (by decide) (by decide) h0 (by with_unfolding_all rfl) ?_
      repeat walk_at "mq"
      (rename Led _ _ _ _ => D10)
      refine b_set (pre := [_]) D10 (by decide) (by decide) (by rw [hz7]; decide) fun s11 D11 => ?_
      clear D10
      simp only [List.cons_append, List.nil_append] at D11
      refine x_setSub rfl ?_
      repeat walk_at "mq"
      (rename Led _ _ _ _ => D12)
      refine b_set (pre := [_]) D12 (by decide) (by decide) (by rw [List.length_set, hz7]; decide) fun s13 D13 => ?_
      clear D12
      simp only [List.cons_append, List.nil_append] at D13
      repeat walk_at "mq"
      (rename Led _ _ _ _ => D14)
      obtain ⟨g2, hg2, D15, hq1⟩ := Led.freezeAt (pre := [_]) D14
      obtain ⟨g3, hg3, D16, hq2⟩ := Led.freezeAt (pre := [_]) D15
      have e : (Cnt.run least lays).turn = ⟨c.black, c.white, (c.cor.set 6 (itemOf c.cor 0)).set 0 0⟩ := by
        rw [← hc]; unfold Cnt.turn; rw [if_pos h50]
      refine h _ g3 _ (hg1.trans (hg2.trans hg3)) ?_ D16.drop1.drop1.drop1
      rw [e]
      exact ⟨_, _, _, _, (PTup.isTup hq1).keeps hg3, hq2, IntsAre.setAt (IntsAre.setAt hz 6 _ _) 0 _ _⟩
    · refine if_f (decide_eq_false h50) ?_
      repeat walk_at "mq"
      (rename Led _ _ _ _ => D14)
      obtain ⟨g2, hg2, D15, hq1⟩ := Led.freezeAt (pre := [_]) D14
      obtain ⟨g3, hg3, D16, hq2⟩ := Led.freezeAt (pre := [_]) D15
      have e : (Cnt.run least lays).turn = c := by
        rw [← hc]; unfold Cnt.turn; rw [if_neg h50]
      refine h _ g3 _ (hg1.trans (hg2.trans hg3)) ?_ D16.drop1.drop1.drop1
      rw [e]
      exact ⟨_, _, _, _, (PTup.isTup hq1).keeps hg3, hq2, hz⟩
  case turn =>
    rintro i v g1 f tl2 s9 hlt hP hg1 ⟨m, zs, vv, c, u1, u2, rfl, hm1, hm2, hm3, hz, hc⟩ D9
    clear D8
    replace D9 : Led ι g1 s9 ((L, Ob.ns m) :: (cA, Ob.arr zs) :: (L + 1 + 1, .cell vv) :: (L + 1, .cell (some (.int least tl))) :: tl2) := D9
    obtain ⟨y, hy, hya⟩ := hw.get hP
    obtain ⟨b, cc, t, vs, rfl, hb1, hb2, hb3⟩ := hya
    have hb1' := hb1.keeps hg1
    have hb2' : g1.IsList cc vs.toArray := hb2.at fun o e => hg1 _ _ e
    have G1 := G.mono hg1
    have hvl : vs.length = 3 := by rw [hb3.length]; exact h3 y (List.mem_of_getElem? hy)
    refine a_tupT R'.handled D9 (D9.tpG hb1') rfl rfl fun s10 D10 => ?_
    clear D9
    refine ao_cons (a_name ?_)
    repeat walk_at "mq"
    refine ao_cons (a_name ?_)
    repeat walk_at "mq"
    refine ao_nil ?_
    repeat walk_at "mq"
    (rename Led _ _ _ _ => D11)
    refine e_comp V (cl := [("votes", L + 1 + 1), ("least", L + 1)]) rfl rfl (by decide) (by intro _; rfl) ?_
    repeat walk_at "mq"
    (rename Led _ _ _ _ => D12)
    refine call_rng1 D12 fun r13 s13 D13 => ?_
    refine it_range' (n := 3) D13 (by decide +kernel) (by decide +kernel) fun I14 s14 D14 => ?_
    clear D12 D13
    refine comp_run V (iter_range R'.handled 0 1 3) (fun i g ys n => IntsAre ys (bitsOf (votesFor y.2 least) i)) (fun _ _ _ _ _ _ q => q) D14 .nil rfl (by decide) (by decide) (fun i g' ys n' hi hJ => by rw [hJ.length]; exact bitsOf_len _ _) (by intro _; rfl) ?done2 ?turn2
    case turn2 =>
      rintro cenv C j v g2 ys mc cm tl3 s15 VC hj ⟨tj, rfl⟩ hg2 hJ DC
      clear D14
      replace VC : EnvIs cenv C [(".0", .local), ("j", .local), ("least", .cell), ("votes", .cell)] [("votes", L + 1 + 1), ("least", L + 1)] := VC
      replace DC : Led ι g2 s15 ((C, Ob.ns mc) :: (L, Ob.ns (upd m "thick" (.int y.1 t))) :: (cA, Ob.arr zs) :: (L + 1 + 1, Ob.cell (some (.ref cc))) :: (L + 1, Ob.cell (some (.int least tl))) :: (tl2 ++ tl3)) := DC
      have hb3' : g2.IsList cc vs.toArray := hb2'.at fun o e => hg2 _ _ e
      have e3 : (0 + (j : Int) * 1).toNat = j := by omega
      obtain ⟨uj, hvj⟩ : ∃ u, vs[j]? = some (.int (itemOf y.2 j) u) := by
        refine IntsAre.item hb3 ?_
        have := hb3.length
        unfold itemOf
        rw [List.getElem?_eq_getElem (by omega)]; rfl
      refine a_name ?_
      walk_at "mq"
      refine ts_one ?_
      repeat walk_at "mq"
      refine s_list (by walk_at "mq lst") (by omega) (by omega) (by rw [e3]; exact hvj) (by with_unfolding_all rfl) ?_
      repeat walk_at "mq"
      by_cases hle : least ≤ itemOf y.2 j
      · refine if_t (decide_eq_true hle) ?_
        repeat walk_at "mq"
        (rename Led _ _ _ _ => D16)
        refine i_pow D16 (by omega) ?_ fun t17 s17 D17 => ?_
        · have : j = 0 ∨ j = 1 ∨ j = 2 := by omega
          rcases this with rfl | rfl | rfl <;> decide +kernel
        rw [e3]
        refine ⟨g2, _, cm, Sub.refl _, ?_, D17⟩
        rw [bitsOf_succ, if_pos (show votesFor y.2 least j = true from decide_eq_true hle)]
        exact hJ.append (.cons _ _ .nil)
      · refine if_f (decide_eq_false hle) ?_
        (rename Led _ _ _ _ => D16)
        refine ⟨g2, _, cm, Sub.refl _, ?_, D16⟩
        rw [bitsOf_succ, if_neg (by unfold votesFor; rw [decide_eq_false hle]; decide), List.append_nil]
        exact hJ
    case done2 =>
      intro bA g2 ys s15 hg2 hJ D15
      clear D14
      have G2 := G1.mono hg2
      repeat walk_at "mq"
      refine b_sum R'.handled D15 (D15.lst (by walk_at "mq mem")) hJ fun t16 s16 D16 => ?_
      clear D15
      replace D16 : Led ι g2 s16 ((L, Ob.ns (upd m "thick" (.int y.1 t))) :: (cA, Ob.arr zs) :: (L + 1 + 1, Ob.cell (some (.ref cc))) :: (L + 1, Ob.cell (some (.int least tl))) :: tl2) := D16.drop1
      have hcode : (bitsOf (votesFor y.2 least) 3).sum = codeOf y.2 least := rfl
      rw [hcode]
      have hnext := Cnt.run_take least lays hy
      rw [← hc] at hnext
      repeat walk_at "mq"
      by_cases h0 : codeOf y.2 least = 0
      · refine if_t (by simpa using h0) ?_
        repeat walk_at "mq"
        refine ld_l (x := "black") (v := .int c.black u1) V (by assumption) (by walk_at "mq mem") rfl (by walk_at "mq look") ?_
        repeat walk_at "mq"
        (rename Led _ _ _ _ => D17)
        refine ⟨rfl, g2, _, hg2, ⟨_, _, _, ⟨c.black + y.1, c.white, c.cor⟩, _, _, rfl, by walk_at "mq look", by walk_at "mq look", by walk_at "mq look", hz, ?_⟩, D17⟩
        rw [hnext]; unfold Cnt.step; rw [if_pos h0]
      · refine if_f (by simpa using h0) ?_
        repeat walk_at "mq"
        by_cases h7 : codeOf y.2 least = 7
        · refine if_t (by simpa using h7) ?_
          repeat walk_at "mq"
          refine ld_l (x := "white") (v := .int c.white u2) V (by assumption) (by walk_at "mq mem") rfl (by walk_at "mq look") ?_
          repeat walk_at "mq"
          (rename Led _ _ _ _ => D17)
          refine ⟨rfl, g2, _, hg2, ⟨_, _, _, ⟨c.black, c.white + y.1, c.cor⟩, _, _, rfl, by walk_at "mq look", by walk_at "mq look", by walk_at "mq look", hz, ?_⟩, D17⟩
          rw [hnext]; unfold Cnt.step; rw [if_neg h0, if_pos h7]
        · refine if_f (by simpa using h7) ?_
          refine x_augSub (by intro _ _ _; rfl) ?_
          repeat walk_at "mq"
          (rename Led _ _ _ _ => D17)
          have hcs : codeOf y.2 least ∈ [1, 2, 3, 4, 5, 6] := by
            rcases codeOf_cases y.2 least with h | h | h
            · exact absurd h h0
            · exact absurd h h7
            · exact h
          have hco : cornerOf (codeOf y.2 least) < 7 ∧ 0 ≤ codeOf y.2 least ∧ codeOf y.2 least < 7 := by
            simp only [List.mem_cons, List.not_mem_nil, or_false] at hcs
            rcases hcs with h | h | h | h | h | h <;> rw [h] <;> decide
          have hix : ∀ (x0 x1 x2 x3 x4 x5 x6 : Tok), ∃ k j, seqIndex? (codeOf y.2 least) [Value.int 0 x0, .int 0 x1, .int 2 x2, .int 1 x3, .int 4 x4, .int 5 x5, .int 3 x6].length = some j ∧ [Value.int 0 x0, .int 0 x1, .int 2 x2, .int 1 x3, .int 4 x4, .int 5 x5, .int 3 x6][j]? = some (.int (cornerOf (codeOf y.2 least) : Nat) k) := by
            intro x0 x1 x2 x3 x4 x5 x6
            simp only [List.mem_cons, List.not_mem_nil, or_false] at hcs
            rcases hcs with h | h | h | h | h | h <;> rw [h] <;> exact ⟨_, _, rfl, rfl⟩
          obtain ⟨kk, jj, hj1, hj2⟩ := hix _ _ _ _ _ _ _
          refine s_tup (D17.tp (by walk_at "mq mem")) (by omega) (by omega) hj1 hj2 (by with_unfolding_all rfl) ?_
          have hc7 : c.cor.length = 7 := by rw [hc]; exact Cnt.run_len _ _
          have hz7 : zs.length = 7 := by rw [hz.length, hc7]
          have en : ((cornerOf (codeOf y.2 least) : Nat) : Int).toNat = cornerOf (codeOf y.2 least) := by omega
          obtain ⟨uo, ho⟩ : ∃ u, zs[cornerOf (codeOf y.2 least)]? = some (.int (itemOf c.cor (cornerOf (codeOf y.2 least))) u) := by
            refine IntsAre.item hz ?_
            unfold itemOf
            rw [List.getElem?_eq_getElem (by omega)]; rfl
          refine g_list (D17.arrL (by walk_at "mq mem")) (by omega) (by omega) (by rw [en]; exact ho) ?_
          repeat walk_at "mq"
          (rename Led _ _ _ _ => D18)
          refine b_set (pre := [_, _]) D18 (by omega) (by omega) (by rw [hz7]; omega) fun s19 D19 => ?_
          clear D18
          have D20 := D19.sublist (.cons₂ _ (.cons _ (.refl _)))
          repeat walk_at "mq"
          refine ⟨rfl, g2, _, hg2, ⟨_, _, _, ⟨c.black, c.white, c.cor.set (cornerOf (codeOf y.2 least)) (itemOf c.cor (cornerOf (codeOf y.2 least)) + y.1)⟩, _, _, rfl, by walk_at "mq look", by walk_at "mq look", by walk_at "mq look", ?_, ?_⟩, D20⟩
          · rw [en]; exact IntsAre.setAt hz _ _ _
          · rw [hnext]; unfold Cnt.step; rw [if_neg h0, if_neg h7]
end

section
open PySem PySem.W PySem.Calls PyProof.Rows PySem.SeqAt
set_option Elab.async false
set_option maxRecDepth 100000
set_option linter.all false
set_option maxHeartbeats 4000000
/-- the thickness of the layers whose foot answers -/
noncomputable def thick (p : Int → Bool) : List Int → Int
  | x :: y :: r => (if p x = true then y - x else 0) + thick p (y :: r)
  | _ => 0
theorem thick_none (p : Int → Bool) : ∀ lv : List Int, (∀ x ∈ lv, p x = false) → thick p lv = 0
  | [], _ => rfl
  | [_], _ => rfl
  | x :: y :: r, h => by
    simp only [thick]
    rw [h x (by simp), thick_none p (y :: r) (fun z hz => h z (List.mem_cons_of_mem _ hz))]
    simp
theorem thick_lt (h : Int) : ∀ (lv : List Int) (a : Int), lv.Pairwise (· < ·) → lv[0]? = some a → h ∈ lv → thick (fun x => decide (x < h)) lv = h - a
  | [], _, _, ha, _ => by simp at ha
  | [x], a, _, ha, hm => by simp at ha hm; subst ha; subst hm; simp [thick]
  | x :: y :: r, a, hp, ha, hm => by
    simp at ha; subst ha
    simp only [thick]
    have hx := (List.pairwise_cons.mp hp).1
    have hp' := (List.pairwise_cons.mp hp).2
    rcases List.mem_cons.mp hm with rfl | hm
    · rw [thick_none _ (y :: r) (fun z hz => decide_eq_false (by have := hx z hz; omega))]
      simp
    · rw [thick_lt h (y :: r) y hp' rfl hm]
      simp only [decide_eq_true_eq]
      rw [if_pos (hx h hm)]; omega
theorem thick_split (p q s : Int → Bool) (h : ∀ x, (if p x = true then (1 : Int) else 0) = (if q x = true then 1 else 0) + (if s x = true then 1 else 0)) : ∀ lv : List Int, thick p lv = thick q lv + thick s lv
  | [] => rfl
  | [_] => rfl
  | x :: y :: r => by
    simp only [thick]
    rw [thick_split p q s h (y :: r)]
    have := h x
    cases hp : p x <;> cases hq : q x <;> cases hs : s x <;> simp only [hp, hq, hs, if_true, Bool.false_eq_true, if_false] at this ⊢ <;> omega
theorem thick_between {lv : List Int} {a lo hi : Int} (hp : lv.Pairwise (· < ·)) (ha : lv[0]? = some a) (hlo : lo ∈ lv) (hhi : hi ∈ lv) : thick (fun x => decide (lo ≤ x ∧ x < hi)) lv = if lo ≤ hi then hi - lo else 0 := by
  split
  · rename_i h
    have := thick_split (fun x => decide (x < hi)) (fun x => decide (x < lo)) (fun x => decide (lo ≤ x ∧ x < hi)) (fun x => by
      simp only [decide_eq_true_eq]; split <;> split <;> split <;> omega) lv
    rw [thick_lt hi lv a hp ha hhi, thick_lt lo lv a hp ha hlo] at this
    omega
  · exact thick_none _ lv fun x _ => decide_eq_false (by omega)
theorem thick_congr {p q : Int → Bool} : ∀ {lv : List Int}, (∀ x, (∃ y ∈ lv, x < y) → x ∈ lv → p x = q x) → lv.Pairwise (· < ·) → thick p lv = thick q lv
  | [], _, _ => rfl
  | [_], _, _ => rfl
  | x :: y :: r, h, hp => by
    simp only [thick]
    have hx := (List.pairwise_cons.mp hp).1
    rw [h x ⟨y, by simp, hx y (by simp)⟩ (by simp), thick_congr (lv := y :: r) (fun z ⟨w, hw, hl⟩ hz => h z ⟨w, List.mem_cons_of_mem _ hw, hl⟩ (List.mem_cons_of_mem _ hz)) (List.pairwise_cons.mp hp).2]

/-- the code at a level -/
noncomputable def codeAt (cs : List Col) (least x : Int) : Int := codeOf (votesOf cs x) least
noncomputable def codeThick (cs : List Col) (least : Int) (lv : List Int) (c : Int) : Int := thick (fun x => decide (codeAt cs least x = c)) lv
noncomputable def Cnt.of (F : Int → Int) : Cnt := ⟨F 0, F 7, [F 1, F 3, F 2, F 6, F 4, F 5, 0]⟩
theorem step_of (least : Int) (F : Int → Int) (y : Int × List Int) : (Cnt.of F).step least y = Cnt.of (fun c => F c + (if codeOf y.2 least = c then y.1 else 0)) := by
  unfold Cnt.step
  rcases codeOf_cases y.2 least with h | h | h
  · rw [if_pos h]; simp [Cnt.of, h]
  · rw [if_neg (by rw [h]; decide), if_pos h]; simp [Cnt.of, h]
  · simp only [List.mem_cons, List.not_mem_nil, or_false] at h
    rcases h with h | h | h | h | h | h <;> rw [h] <;> simp [Cnt.of, cornerOf, itemOf]
theorem run_of (cs : List Col) (least : Int) : ∀ (lv : List Int) (F : Int → Int), (laysOf cs lv).foldl (Cnt.step least) (Cnt.of F) = Cnt.of (fun c => F c + codeThick cs least lv c)
  | [], F => by simp [laysOf, codeThick, thick]
  | [_], F => by simp [laysOf, codeThick, thick]
  | x :: y :: r, F => by
    simp only [laysOf, List.foldl_cons]
    rw [step_of, run_of cs least (y :: r)]
    congr 1
    funext c
    show F c + (if codeAt cs least x = c then y - x else 0) + codeThick cs least (y :: r) c = F c + codeThick cs least (x :: y :: r) c
    unfold codeThick
    simp only [thick, decide_eq_true_eq]
    rw [Int.add_assoc]
theorem run_eq (cs : List Col) (least : Int) (lv : List Int) : Cnt.run least (laysOf cs lv) = Cnt.of (codeThick cs least lv) := by
  have := run_of cs least lv (fun _ => 0)
  simp only [Int.zero_add] at this
  exact this
theorem code_bits (cs : List Col) (least x m0 m1 m2 : Int) (h0 : least ≤ cnt cs 0 x ↔ x < m0) (h1 : least ≤ cnt cs 1 x ↔ x < m1) (h2 : least ≤ cnt cs 2 x ↔ x < m2) :
    codeAt cs least x = (if x < m0 then 1 else 0) + (if x < m1 then 2 else 0) + (if x < m2 then 4 else 0) := by
  unfold codeAt codeOf
  rw [bitsOf_succ, bitsOf_succ, bitsOf_succ]
  have e0 : votesFor (votesOf cs x) least 0 = decide (x < m0) := by show decide (least ≤ cnt cs 0 x) = _; exact decide_eq_decide.mpr h0
  have e1 : votesFor (votesOf cs x) least 1 = decide (x < m1) := by show decide (least ≤ cnt cs 1 x) = _; exact decide_eq_decide.mpr h1
  have e2 : votesFor (votesOf cs x) least 2 = decide (x < m2) := by show decide (least ≤ cnt cs 2 x) = _; exact decide_eq_decide.mpr h2
  rw [e0, e1, e2]
  by_cases a0 : x < m0 <;> by_cases a1 : x < m1 <;> by_cases a2 : x < m2 <;> simp [bitsOf, a0, a1, a2]

theorem sorted_count {ms : List Int} (hp : ms.Pairwise (· ≤ ·)) {i : Nat} {k x : Int} (hk : ms[i]? = some k) : ms.length - i ≤ ms.countP (fun y => decide (x < y)) ↔ x < k := by
  obtain ⟨hi, hk'⟩ := List.getElem?_eq_some_iff.mp hk
  constructor
  · intro h
    apply Classical.byContradiction
    intro hx
    have e : ms = ms.take (i + 1) ++ ms.drop (i + 1) := (List.take_append_drop _ _).symm
    have c0 : (ms.take (i + 1)).countP (fun y => decide (x < y)) = 0 := by
      rw [List.countP_eq_zero]
      intro y hy
      obtain ⟨j, hj, rfl⟩ := List.mem_take_iff_getElem.mp hy
      have : ms[j] ≤ k := by
        rcases Nat.lt_or_ge j i with h | h
        · rw [← hk']; exact List.pairwise_iff_getElem.mp hp j i (by omega) hi h
        · have : j = i := by omega
          subst this; omega
      simp; omega
    have c1 : (ms.drop (i + 1)).countP (fun y => decide (x < y)) ≤ ms.length - (i + 1) := by
      have := List.countP_le_length (p := fun y => decide (x < y)) (l := ms.drop (i + 1))
      rwa [List.length_drop] at this
    rw [e, List.countP_append, c0, ← e] at h
    omega
  · intro hx
    have e : ms = ms.take i ++ ms.drop i := (List.take_append_drop _ _).symm
    have c1 : (ms.drop i).countP (fun y => decide (x < y)) = (ms.drop i).length := by
      rw [List.countP_eq_length]
      intro y hy
      obtain ⟨j, hj, rfl⟩ := List.mem_drop_iff_getElem.mp hy
      have : k ≤ ms[i + j] := by
        rcases Nat.eq_zero_or_pos j with h | h
        · subst h; simp only [Nat.add_zero]; omega
        · rw [← hk']; exact List.pairwise_iff_getElem.mp hp i (i + j) hi (by omega) (by omega)
      simp; omega
    rw [List.length_drop] at c1
    have : ms.countP (fun y => decide (x < y)) = (ms.take i).countP (fun y => decide (x < y)) + (ms.drop i).countP (fun y => decide (x < y)) := by
      rw [← List.countP_append, ← e]
    omega
theorem median_cnt {cs : List Col} {ms : List Int} {j i : Nat} {k least : Int} (hperm : ms.Perm (cs.map (cmp3 j))) (hp : ms.Pairwise (· ≤ ·)) (hk : ms[i]? = some k) (hl : least = ((cs.length - i : Nat) : Int)) (x : Int) : least ≤ cnt cs j x ↔ x < k := by
  have e : cntN cs j x = ms.countP (fun y => decide (x < y)) := by
    rw [hperm.countP_eq, List.countP_map]; rfl
  have hlen : ms.length = cs.length := by rw [hperm.length_eq, List.length_map]
  rw [← sorted_count hp hk, ← e, hlen, hl]
  unfold cnt
  omega
theorem median_mem {T : Int} {cs : List Col} {lv ms : List Int} {j i : Nat} {k : Int} (H : Levels T cs lv) (hperm : ms.Perm (cs.map (cmp3 j))) (hk : ms[i]? = some k) : k ∈ lv := by
  have := hperm.mem_iff.mp (List.mem_of_getElem? hk)
  obtain ⟨c, hc, rfl⟩ := List.mem_map.mp this
  exact H.all c hc j
theorem max_mem {lv : List Int} {a b : Int} (ha : a ∈ lv) (hb : b ∈ lv) : max a b ∈ lv := by
  rcases Int.le_total a b with h | h
  · rw [show max a b = b by omega]; exact hb
  · rw [show max a b = a by omega]; exact ha
theorem min_mem {lv : List Int} {a b : Int} (ha : a ∈ lv) (hb : b ∈ lv) : min a b ∈ lv := by
  rcases Int.le_total a b with h | h
  · rw [show min a b = a by omega]; exact ha
  · rw [show min a b = b by omega]; exact hb

theorem code_is {a b c : Prop} [Decidable a] [Decidable b] [Decidable c] (p q r : Bool) : ((if a then (1 : Int) else 0) + (if b then 2 else 0) + (if c then 4 else 0) = (if p then 1 else 0) + (if q then 2 else 0) + (if r then 4 else 0)) ↔ ((a ↔ p = true) ∧ (b ↔ q = true) ∧ (c ↔ r = true)) := by
  by_cases ha : a <;> by_cases hb : b <;> by_cases hc : c <;> cases p <;> cases q <;> cases r <;> simp [ha, hb, hc]
theorem up0 {f a b c : Int} (h : f = max 0 (a - max b c)) (o : a ≤ b ∨ a ≤ c) : f = 0 := by omega
theorem up1 {f a b c : Int} (h : f = max 0 (a - max b c)) (o1 : b ≤ c) (o2 : c ≤ a) : f = a - c := by omega
theorem up2 {f a b c : Int} (h : f = max 0 (a - max b c)) (o1 : c ≤ b) (o2 : b ≤ a) : f = a - b := by omega
theorem dn0 {f a b c : Int} (h : f = max 0 (min b c - a)) (o : b ≤ a ∨ c ≤ a) : f = 0 := by omega
theorem dn1 {f a b c : Int} (h : f = max 0 (min b c - a)) (o1 : b ≤ c) (o2 : a ≤ b) : f = b - a := by omega
theorem dn2 {f a b c : Int} (h : f = max 0 (min b c - a)) (o1 : c ≤ b) (o2 : a ≤ c) : f = c - a := by omega
theorem max_is {a b c v : Int} (h : v = a ∨ v = b ∨ v = c) (h0 : a ≤ v) (h1 : b ≤ v) (h2 : c ≤ v) : max a (max b c) = v := by omega
theorem min_is {a b c v : Int} (h : v = a ∨ v = b ∨ v = c) (h0 : v ≤ a) (h1 : v ≤ b) (h2 : v ≤ c) : min a (min b c) = v := by omega
theorem hueT_R {R G B M P v : Int} (h : R = M) (hv : (M - B) - (M - G) = v) : hueT R G B M P = if v < 0 then v + 6 * P else v := by
  unfold hueT hueN; rw [if_pos h, hv]
theorem hueT_G {R G B M P v : Int} (h : ¬ R = M) (h' : G = M) (hv : 2 * P + (M - R) - (M - B) = v) : hueT R G B M P = if v < 0 then v + 6 * P else v := by
  unfold hueT hueN; rw [if_neg h, if_pos h', hv]
theorem hueT_B {R G B M P v : Int} (h : ¬ R = M) (h' : ¬ G = M) (hv : 4 * P + (M - G) - (M - R) = v) : hueT R G B M P = if v < 0 then v + 6 * P else v := by
  unfold hueT hueN; rw [if_neg h, if_neg h', hv]
/-- the turn of the counts, of what is left of it once the order is known -/
noncomputable def Turned (m0 m1 m2 M N f1 f2 f3 f4 f5 f6 : Int) : Prop :=
  f1 + f2 + f3 + f4 + f5 + f6 = M - N ∧ f3 + 2 * f2 + 3 * f6 + 4 * f4 + 5 * f5 + (if 0 < f5 then 6 * f1 else 0) = (if M = N then 0 else hueT m0 m1 m2 M (M - N))
theorem turned {m0 m1 m2 f1 f2 f3 f4 f5 f6 : Int} (F1 : f1 = max 0 (m0 - max m1 m2)) (F2 : f2 = max 0 (m1 - max m0 m2)) (F4 : f4 = max 0 (m2 - max m0 m1)) (F3 : f3 = max 0 (min m0 m1 - m2)) (F5 : f5 = max 0 (min m0 m2 - m1)) (F6 : f6 = max 0 (min m1 m2 - m0)) :
    Turned m0 m1 m2 (max m0 (max m1 m2)) (min m0 (min m1 m2)) f1 f2 f3 f4 f5 f6 := by
  rcases Int.le_total m0 m1 with o1 | o1 <;> rcases Int.le_total m1 m2 with o2 | o2
  · -- 0 1 2
    rw [max_is (v := m2) (.inr (.inr rfl)) (Int.le_trans o1 o2) o2 (Int.le_refl _), min_is (v := m0) (.inl rfl) (Int.le_refl _) o1 (Int.le_trans o1 o2),
      up0 F1 (.inl o1), up0 F2 (.inr o2), up1 F4 o1 o2, dn0 F3 (.inl (Int.le_trans o1 o2)), dn0 F5 (.inl o1), dn1 F6 o2 o1]
    clear F1 F2 F3 F4 F5 F6
    refine ⟨by omega, ?_⟩
    by_cases e : m2 = m0
    · rw [if_pos e]; split <;> omega
    · rw [if_neg e]
      by_cases e1 : m1 = m2
      · rw [hueT_G (by omega) e1 rfl]; split <;> split <;> omega
      · rw [hueT_B (by omega) e1 rfl]; split <;> split <;> omega
  · rcases Int.le_total m0 m2 with o3 | o3
    · -- 0 2 1
      rw [max_is (v := m1) (.inr (.inl rfl)) o1 (Int.le_refl _) o2, min_is (v := m0) (.inl rfl) (Int.le_refl _) o1 o3,
        up0 F1 (.inl o1), up1 F2 o3 o2, up0 F4 (.inr o2), dn0 F3 (.inl o3), dn0 F5 (.inl o1), dn2 F6 o2 o3]
      clear F1 F2 F3 F4 F5 F6
      refine ⟨by omega, ?_⟩
      by_cases e : m1 = m0
      · rw [if_pos e]; split <;> omega
      · rw [if_neg e, hueT_G (by omega) rfl rfl]; split <;> split <;> omega
    · -- 2 0 1
      rw [max_is (v := m1) (.inr (.inl rfl)) o1 (Int.le_refl _) o2, min_is (v := m2) (.inr (.inr rfl)) o3 o2 (Int.le_refl _),
        up0 F1 (.inl o1), up2 F2 o3 o1, up0 F4 (.inr o2), dn1 F3 o1 o3, dn0 F5 (.inr o2), dn0 F6 (.inr o3)]
      clear F1 F2 F3 F4 F5 F6
      refine ⟨by omega, ?_⟩
      by_cases e : m1 = m2
      · rw [if_pos e]; split <;> omega
      · rw [if_neg e]
        by_cases e1 : m0 = m1
        · rw [hueT_R e1 rfl]; split <;> split <;> omega
        · rw [hueT_G e1 rfl rfl]; split <;> split <;> omega
  · rcases Int.le_total m0 m2 with o3 | o3
    · -- 1 0 2
      rw [max_is (v := m2) (.inr (.inr rfl)) o3 o2 (Int.le_refl _), min_is (v := m1) (.inr (.inl rfl)) o1 (Int.le_refl _) o2,
        up0 F1 (.inr o3), up0 F2 (.inl o1), up2 F4 o1 o3, dn0 F3 (.inl o3), dn1 F5 o3 o1, dn0 F6 (.inl o1)]
      clear F1 F2 F3 F4 F5 F6
      refine ⟨by omega, ?_⟩
      by_cases e : m2 = m1
      · rw [if_pos e]; split <;> omega
      · rw [if_neg e]
        by_cases e1 : m0 = m2
        · rw [hueT_R e1 rfl]; split <;> split <;> omega
        · rw [hueT_B e1 (by omega) rfl]; split <;> split <;> omega
    · -- 1 2 0
      rw [max_is (v := m0) (.inl rfl) (Int.le_refl _) o1 o3, min_is (v := m1) (.inr (.inl rfl)) o1 (Int.le_refl _) o2,
        up1 F1 o2 o3, up0 F2 (.inl o1), up0 F4 (.inl o3), dn0 F3 (.inr o2), dn2 F5 o3 o2, dn0 F6 (.inl o1)]
      clear F1 F2 F3 F4 F5 F6
      refine ⟨by omega, ?_⟩
      by_cases e : m0 = m1
      · rw [if_pos e]; split <;> omega
      · rw [if_neg e, hueT_R rfl rfl]; split <;> split <;> omega
  · -- 2 1 0
    rw [max_is (v := m0) (.inl rfl) (Int.le_refl _) o1 (Int.le_trans o2 o1), min_is (v := m2) (.inr (.inr rfl)) (Int.le_trans o2 o1) o2 (Int.le_refl _),
      up2 F1 o2 o1, up0 F2 (.inl o1), up0 F4 (.inl (Int.le_trans o2 o1)), dn2 F3 o1 o2, dn0 F5 (.inr o2), dn0 F6 (.inr (Int.le_trans o2 o1))]
    clear F1 F2 F3 F4 F5 F6
    refine ⟨by omega, ?_⟩
    by_cases e : m0 = m2
    · rw [if_pos e]; split <;> omega
    · rw [if_neg e, hueT_R rfl rfl]; split <;> split <;> omega
theorem counted_pure {T : Int} {cs : List Col} {lv : List Int} {least m0 m1 m2 : Int} (H : Levels T cs lv) (k0 : m0 ∈ lv) (k1 : m1 ∈ lv) (k2 : m2 ∈ lv)
    (h0 : ∀ x, least ≤ cnt cs 0 x ↔ x < m0) (h1 : ∀ x, least ≤ cnt cs 1 x ↔ x < m1) (h2 : ∀ x, least ≤ cnt cs 2 x ↔ x < m2) (c : Cnt) (hc : c = (Cnt.run least (laysOf cs lv)).turn) :
    c.black = T - max m0 (max m1 m2) ∧ c.white = min m0 (min m1 m2) ∧ c.cor.sum = max m0 (max m1 m2) - min m0 (min m1 m2) ∧
    (∃ c0 c1 c2 c3 c4 c5 c6, c.cor = [c0, c1, c2, c3, c4, c5, c6] ∧ 0 * c0 + 1 * c1 + 2 * c2 + 3 * c3 + 4 * c4 + 5 * c5 + 6 * c6 = (if max m0 (max m1 m2) = min m0 (min m1 m2) then 0 else hueT m0 m1 m2 (max m0 (max m1 m2)) (max m0 (max m1 m2) - min m0 (min m1 m2)))) := by
  have z0 : (0 : Int) ∈ lv := List.mem_of_getElem? H.head
  have zT : T ∈ lv := List.mem_of_getLast? H.last
  have hle := pairwise_last H.inc H.last
  have hge : ∀ x ∈ lv, 0 ≤ x := by
    intro x hx
    have hd := H.head
    cases lv with
    | nil => cases hx
    | cons a r =>
      simp at hd; subst hd
      rcases List.mem_cons.mp hx with rfl | hx
      · exact Int.le_refl _
      · exact Int.le_of_lt ((List.pairwise_cons.mp H.inc).1 x hx)
  have F : ∀ (cc lo hi : Int), lo ∈ lv → hi ∈ lv → (∀ x, 0 ≤ x → x < T → (codeAt cs least x = cc ↔ (lo ≤ x ∧ x < hi))) → codeThick cs least lv cc = if lo ≤ hi then hi - lo else 0 := by
    intro cc lo hi hlo hhi hq
    unfold codeThick
    rw [← thick_between H.inc H.head hlo hhi]
    refine thick_congr (fun x ⟨y, hy, hl⟩ hx => decide_eq_decide.mpr (hq x (hge x hx) ?_)) H.inc
    have := hle y hy; omega
  have cb := fun x => code_bits cs least x m0 m1 m2 (h0 x) (h1 x) (h2 x)
  have F0 := F 0 (max m0 (max m1 m2)) T (max_mem k0 (max_mem k1 k2)) zT (fun x _ _ => by rw [cb]; refine (code_is false false false).trans ?_; simp only [Bool.false_eq_true, iff_true, iff_false]; omega)
  have F7 := F 7 0 (min m0 (min m1 m2)) z0 (min_mem k0 (min_mem k1 k2)) (fun x _ _ => by rw [cb]; refine (code_is true true true).trans ?_; simp only [Bool.false_eq_true, iff_true, iff_false]; omega)
  have F1 := F 1 (max m1 m2) m0 (max_mem k1 k2) k0 (fun x _ _ => by rw [cb]; refine (code_is true false false).trans ?_; simp only [Bool.false_eq_true, iff_true, iff_false]; omega)
  have F2 := F 2 (max m0 m2) m1 (max_mem k0 k2) k1 (fun x _ _ => by rw [cb]; refine (code_is false true false).trans ?_; simp only [Bool.false_eq_true, iff_true, iff_false]; omega)
  have F4 := F 4 (max m0 m1) m2 (max_mem k0 k1) k2 (fun x _ _ => by rw [cb]; refine (code_is false false true).trans ?_; simp only [Bool.false_eq_true, iff_true, iff_false]; omega)
  have F3 := F 3 m2 (min m0 m1) k2 (min_mem k0 k1) (fun x _ _ => by rw [cb]; refine (code_is true true false).trans ?_; simp only [Bool.false_eq_true, iff_true, iff_false]; omega)
  have F5 := F 5 m1 (min m0 m2) k1 (min_mem k0 k2) (fun x _ _ => by rw [cb]; refine (code_is true false true).trans ?_; simp only [Bool.false_eq_true, iff_true, iff_false]; omega)
  have F6 := F 6 m0 (min m1 m2) k0 (min_mem k1 k2) (fun x _ _ => by rw [cb]; refine (code_is false true true).trans ?_; simp only [Bool.false_eq_true, iff_true, iff_false]; omega)
  have b0 := hge _ k0; have b1 := hge _ k1; have b2 := hge _ k2
  have d0 := hle _ k0; have d1 := hle _ k1; have d2 := hle _ k2
  rw [run_eq] at hc
  have hc' : c = Cnt.turn ⟨codeThick cs least lv 0, codeThick cs least lv 7, [codeThick cs least lv 1, codeThick cs least lv 3, codeThick cs least lv 2, codeThick cs least lv 6, codeThick cs least lv 4, codeThick cs least lv 5, 0]⟩ := hc
  generalize codeThick cs least lv 0 = f0 at *
  generalize codeThick cs least lv 1 = f1 at *
  generalize codeThick cs least lv 2 = f2 at *
  generalize codeThick cs least lv 3 = f3 at *
  generalize codeThick cs least lv 4 = f4 at *
  generalize codeThick cs least lv 5 = f5 at *
  generalize codeThick cs least lv 6 = f6 at *
  generalize codeThick cs least lv 7 = f7 at *
  have two : ∀ (lo hi f : Int), f = (if lo ≤ hi then hi - lo else 0) → f = max 0 (hi - lo) := by
    intro lo hi f h; split at h <;> omega
  replace F0 := two _ _ _ F0
  replace F1 := two _ _ _ F1
  replace F2 := two _ _ _ F2
  replace F3 := two _ _ _ F3
  replace F4 := two _ _ _ F4
  replace F5 := two _ _ _ F5
  replace F6 := two _ _ _ F6
  replace F7 := two _ _ _ F7
  clear F cb hle hge h0 h1 h2 hc z0 zT k0 k1 k2
  have G0 : f0 = T - max m0 (max m1 m2) := by clear F1 F2 F3 F4 F5 F6 F7 b0 b1 b2; omega
  have G7 : f7 = min m0 (min m1 m2) := by clear F0 F1 F2 F3 F4 F5 F6 G0 d0 d1 d2; omega
  obtain ⟨GS, GT⟩ := turned F1 F2 F4 F3 F5 F6
  unfold Cnt.turn at hc'
  change c = if 0 < f5 then _ else _ at hc'
  by_cases h5 : 0 < f5
  · rw [if_pos h5] at hc'
    rw [if_pos h5] at GT
    subst hc'
    refine ⟨G0, G7, ?_, 0, f3, f2, f6, f4, f5, f1, rfl, ?_⟩
    · show ([0, f3, f2, f6, f4, f5, f1] : List Int).sum = _
      simp only [List.sum_cons, List.sum_nil]
      rw [← GS]; omega
    · rw [← GT]; omega
  · rw [if_neg h5] at hc'
    rw [if_neg h5] at GT
    subst hc'
    refine ⟨G0, G7, ?_, f1, f3, f2, f6, f4, f5, 0, rfl, ?_⟩
    · show ([f1, f3, f2, f6, f4, f5, 0] : List Int).sum = _
      simp only [List.sum_cons, List.sum_nil]
      rw [← GS]; omega
    · rw [← GT]; omega
end

structure Three (xr xg xb : UInt64) (R G B T U : Int) : Prop where
  r : Rep xr (R * U)
  g : Rep xg (G * U)
  b : Rep xb (B * U)
  U0 : 0 < U
  fit : ∀ A : Int, A.natAbs ≤ 2 ^ 53 → Fits (A * U).natAbs
  TU : T * U = one'
  half : ∃ V, U = 2 * V ∧ ∀ A : Int, A.natAbs ≤ 2 ^ 53 → Fits (A * V).natAbs
  T0 : 2 ≤ T
  T1 : T ≤ 2 ^ 20
  R0 : 0 ≤ R ∧ R ≤ T
  G0 : 0 ≤ G ∧ G ≤ T
  B0 : 0 ≤ B ∧ B ≤ T
noncomputable def mx3 (R G B : Int) : Int := max R (max G B)
noncomputable def mn3 (R G B : Int) : Int := min R (min G B)
theorem mx3_le {R G B T : Int} (hR : 0 ≤ R ∧ R ≤ T) (hG : 0 ≤ G ∧ G ≤ T) (hB : 0 ≤ B ∧ B ≤ T) : 0 ≤ mx3 R G B ∧ mx3 R G B ≤ T ∧ 0 ≤ mn3 R G B ∧ mn3 R G B ≤ mx3 R G B := by unfold mx3 mn3; omega
theorem mx3_in (R G B : Int) : (mn3 R G B ≤ R ∧ R ≤ mx3 R G B) ∧ (mn3 R G B ≤ G ∧ G ≤ mx3 R G B) ∧ (mn3 R G B ≤ B ∧ B ≤ mx3 R G B) := by unfold mx3 mn3; omega
section
variable {xr xg xb : UInt64} {R G B T U : Int}
theorem Three.m (H : Three xr xg xb R G B T U) : Rep (fmax3 xr xg xb) (mx3 R G B * U) := fmax3_rep H.U0 H.r H.g H.b
theorem Three.n (H : Three xr xg xb R G B T U) : Rep (fmin3 xr xg xb) (mn3 R G B * U) := fmin3_rep H.U0 H.r H.g H.b
theorem Three.rng (H : Three xr xg xb R G B T U) : Rep (Float64.sub (fmax3 xr xg xb) (fmin3 xr xg xb)) ((mx3 R G B - mn3 R G B) * U) := by
  have := mx3_le H.R0 H.G0 H.B0; have := H.T1
  have := sub_rep H.m H.n (by rw [← Int.sub_mul]; exact H.fit _ (by omega))
  rwa [← Int.sub_mul] at this
theorem Three.hue (H : Three xr xg xb R G B T U) (h : mn3 R G B ≠ mx3 R G B) : HueIn xr xg xb (fmax3 xr xg xb) (Float64.sub (fmax3 xr xg xb) (fmin3 xr xg xb)) R G B (mx3 R G B) (mx3 R G B - mn3 R G B) U := by
  have := mx3_le H.R0 H.G0 H.B0; have := mx3_in R G B; have := H.T1
  refine ⟨H.r, H.g, H.b, H.m, H.rng, H.U0, H.fit, ?_, ?_, ?_, ?_, ?_⟩ <;> omega
/-- what rgb_to_hsv answers -/
structure HsvOut (xr xg xb : UInt64) (R G B U : Int) (h s v : UInt64) : Prop where
  v : Rep v (mx3 R G B * U)
  grey : mn3 R G B = mx3 R G B → Rep h 0 ∧ Rep s 0
  h : mn3 R G B ≠ mx3 R G B → h = hueB xr xg xb (fmax3 xr xg xb) (Float64.sub (fmax3 xr xg xb) (fmin3 xr xg xb))
  s : mn3 R G B ≠ mx3 R G B → FracIs s (mx3 R G B - mn3 R G B).natAbs (mx3 R G B).natAbs
end

section
variable {prog : Program} {w : World} {A : Around} {E : Value → Shared → Prop} {s ι : Shared} {g : Heap} {l : List (Addr × Ob)}

theorem hsv_spec {n : Nat} {xr xg xb : UInt64} {t1 t2 t3 : Tok} {R G B T U : Int} {Q : Value → Shared → Prop} (D : Led ι g s l) (Gd : Grd g) (Rm : Room A (n + 1)) (H : Three xr xg xb R G B T U) (z1 : t1 ≠ 0) (z2 : t2 ≠ 0) (z3 : t3 ≠ 0)
    (h : ∀ a fh fs fv th ts tv s', th ≠ 0 → ts ≠ 0 → tv ≠ 0 → HsvOut xr xg xb R G B U fh fs fv → Led ι g s' ((a, .tup [.float fh th, .float fs ts, .float fv tv]) :: l) → Q (.ref a) s') :
    wpAny (model prog w) A (call (.ref 35) [.float xr t1, .float xg t2, .float xb t3]) Q E s := by
  refine call_fn (binds := [("r", .float xr t1), ("g", .float xg t2), ("b", .float xb t3)]) D Gd Gd.hsv Rm rfl rfl rfl ?hb ?hk ?hn ?h
  case hb => intro fd h1 h2 h3; unfold bindArgs; rw [h1, h2, h3]; rfl
  case hk => exact fun n => kinds_of (k := n) ⟨.inl rfl, .inl rfl, .inl rfl, trivial⟩
  case hn => decide
  intro env A' s' L V R' D'
  replace D' : Led ι g s' ((L, .ns (upd (upd (upd (fun _ => none) "r" (.float xr t1)) "g" (.float xg t2)) "b" (.float xb t3))) :: l) := D'
  replace V : EnvIs env L [("r", .local), ("g", .local), ("b", .local), ("maxc", .local), ("minc", .local), ("rangec", .local), ("v", .local), ("s", .local), ("rc", .local), ("gc", .local), ("bc", .local), ("h", .local), ("max", .globalImplicit), ("min", .globalImplicit)] [] := V
  clear D
  conv in (bodyOf (defAt 3)) => whnf
  have hM := H.m
  have hN := H.n
  have hMN := H.rng
  have hsix : Float64.isZero 0x4018000000000000 = false := by decide +kernel
  have hone : Float64.isZero 0x3ff0000000000000 = false := by decide +kernel
  repeat walk_at "mq"
  (rename Led _ _ _ _ => D1)
  refine b_max3 R'.handled D1 z1 z2 z3 fun tM s2 zM D2 => ?_
  clear D1
  repeat walk_at "mq"
  (rename Led _ _ _ _ => D3)
  refine b_min3 R'.handled D3 z1 z2 z3 fun tN s4 zN D4 => ?_
  clear D3
  repeat walk_at "mq"
  have hU := H.U0
  rw [eq_rep hN hM]
  by_cases hg : mn3 R G B = mx3 R G B
  · refine if_t (decide_eq_true (by rw [hg])) ?_
    repeat walk_at "mq"
    (rename Led _ _ _ _ => D5)
    exact h _ _ _ _ _ _ _ _ (by assumption) (by assumption) zM ⟨hM, fun _ => ⟨rep_zero, rep_zero⟩, fun q => absurd hg q, fun q => absurd hg q⟩ D5.drop1
  · refine if_f (decide_eq_false (by rw [eq_U hU]; exact hg)) ?_
    have hb := mx3_le H.R0 H.G0 H.B0
    have hMpos : 0 < mx3 R G B := by omega
    have hPpos : 0 < mx3 R G B - mn3 R G B := by omega
    have hzM := notZero hM (by have := Int.mul_pos hMpos hU; omega)
    have hzP := notZero hMN (by have := Int.mul_pos hPpos hU; omega)
    have hfs := frac_div hMN hM hU (by omega) (by omega) hMpos
    repeat walk_at "mq"
    (rename Led _ _ _ _ => D5)
    refine f_div D5 hzM fun ts s6 zs D6 => ?_
    clear D5
    repeat walk_at "mq"
    (rename Led _ _ _ _ => D7)
    refine f_div D7 hzP fun t8 s8 z8 D8 => ?_
    clear D7
    repeat walk_at "mq"
    (rename Led _ _ _ _ => D9)
    refine f_div D9 hzP fun t10 s10 z10 D10 => ?_
    clear D9
    repeat walk_at "mq"
    (rename Led _ _ _ _ => D11)
    refine f_div D11 hzP fun t12 s12 z12 D12 => ?_
    clear D11
    repeat walk_at "mq"
    cases c1 : (Float64.cmp xr (fmax3 xr xg xb) == some Ordering.eq) with
    | true =>
      refine if_t rfl ?_
      repeat walk_at "mq"
      (rename Led _ _ _ _ => D13)
      refine f_div D13 hsix fun t14 s14 z14 D14 => ?_
      clear D13
      repeat walk_at "mq"
      (rename Led _ _ _ _ => D15)
      refine f_mod D15 hone fun t16 s16 z16 D16 => ?_
      clear D15
      repeat walk_at "mq"
      (rename Led _ _ _ _ => D17)
      refine h _ _ _ _ _ _ _ _ z16 zs zM ⟨hM, fun q => absurd q hg, fun _ => ?_, fun _ => hfs⟩ D17.drop1
      unfold hueB hueRaw
      rw [c1, if_pos rfl]
    | false =>
      refine if_f rfl ?_
      repeat walk_at "mq"
      cases c2 : (Float64.cmp xg (fmax3 xr xg xb) == some Ordering.eq) with
      | true =>
        refine if_t rfl ?_
        repeat walk_at "mq"
        (rename Led _ _ _ _ => D13)
        refine f_div D13 hsix fun t14 s14 z14 D14 => ?_
        clear D13
        repeat walk_at "mq"
        (rename Led _ _ _ _ => D15)
        refine f_mod D15 hone fun t16 s16 z16 D16 => ?_
        clear D15
        repeat walk_at "mq"
        (rename Led _ _ _ _ => D17)
        refine h _ _ _ _ _ _ _ _ z16 zs zM ⟨hM, fun q => absurd q hg, fun _ => ?_, fun _ => hfs⟩ D17.drop1
        unfold hueB hueRaw
        rw [c1, if_neg (by decide), c2, if_pos rfl]
      | false =>
        refine if_f rfl ?_
        repeat walk_at "mq"
        (rename Led _ _ _ _ => D13)
        refine f_div D13 hsix fun t14 s14 z14 D14 => ?_
        clear D13
        repeat walk_at "mq"
        (rename Led _ _ _ _ => D15)
        refine f_mod D15 hone fun t16 s16 z16 D16 => ?_
        clear D15
        repeat walk_at "mq"
        (rename Led _ _ _ _ => D17)
        refine h _ _ _ _ _ _ _ _ z16 zs zM ⟨hM, fun q => absurd q hg, fun _ => ?_, fun _ => hfs⟩ D17.drop1
        unfold hueB hueRaw
        rw [c1, if_neg (by decide), c2, if_neg (by decide)]
end

theorem div_two {x : UInt64} {A V : Int} (hV : 0 < V) (hx : Rep x (A * (2 * V))) (hA : 0 ≤ A) (hf : Fits (A * V).natAbs) : Rep (Float64.div x 0x4000000000000000) (A * V) := by
  obtain ⟨⟨a, m, e, h1⟩, h3⟩ := hx
  obtain ⟨⟨b, n, f, h2⟩, h4⟩ := rep2
  have v1 := Float64.val_eq h1
  have v2 := Float64.val_eq h2
  rw [h3] at v1; rw [h4] at v2
  have ho := one_pos
  have hb : b = false := by
    cases b with
    | false => rfl
    | true => unfold Float64.sgn at v2; simp only [if_true] at v2; omega
  subst hb
  have hn : n ≠ 0 := by
    rintro rfl
    unfold Float64.sgn at v2; simp at v2; omega
  have r := Float64.div_right h1 h2 hn
  rw [h3, h4] at r
  have e1 : (A * (2 * V)).natAbs * 2 ^ 1074 = (2 * one').natAbs * (A * V).natAbs := by
    have : one'.natAbs = 2 ^ 1074 := rfl
    rw [Int.natAbs_mul, Int.natAbs_mul, Int.natAbs_mul, Int.natAbs_mul, this]
    generalize (2 : Nat) ^ 1074 = O
    ac_rfl
  rw [e1] at r
  have s1 := right_exact (W := 0) r (by omega) hf
  by_cases h0 : A = 0
  · subst h0
    have e0 : ∀ c, Float64.sgn c 0 = 0 := by intro c; unfold Float64.sgn; cases c <;> rfl
    simp only [Int.zero_mul, Int.natAbs_zero, e0] at s1 ⊢
    exact s1
  · have hAV : 0 < A * V := Int.mul_pos (by omega) hV
    have hA2 : 0 < A * (2 * V) := Int.mul_pos (by omega) (by omega)
    have ha : a = false := by
      cases a with
      | false => rfl
      | true => unfold Float64.sgn at v1; simp only [if_true] at v1; omega
    subst ha
    have : Float64.sgn (false != false) (A * V).natAbs = A * V := by unfold Float64.sgn; simp; omega
    rwa [this] at s1
structure HlsOut (xr xg xb : UInt64) (R G B T : Int) (h l s : UInt64) : Prop where
  l : FracIs l (mx3 R G B + mn3 R G B).natAbs (2 * T).natAbs
  grey : mn3 R G B = mx3 R G B → Rep h 0 ∧ Rep s 0
  h : mn3 R G B ≠ mx3 R G B → h = hueB xr xg xb (fmax3 xr xg xb) (Float64.sub (fmax3 xr xg xb) (fmin3 xr xg xb))
  s : mn3 R G B ≠ mx3 R G B → FracIs s (mx3 R G B - mn3 R G B).natAbs (mx3 R G B - mn3 R G B + 2 * min (mn3 R G B) (T - mx3 R G B)).natAbs

section
variable {prog : Program} {w : World} {A : Around} {E : Value → Shared → Prop} {s ι : Shared} {g : Heap} {l : List (Addr × Ob)}

theorem hls_spec {n : Nat} {xr xg xb : UInt64} {t1 t2 t3 : Tok} {R G B T U : Int} {Q : Value → Shared → Prop} (D : Led ι g s l) (Gd : Grd g) (Rm : Room A (n + 1)) (H : Three xr xg xb R G B T U) (z1 : t1 ≠ 0) (z2 : t2 ≠ 0) (z3 : t3 ≠ 0)
    (h : ∀ a fh fl fs th tl ts s', th ≠ 0 → tl ≠ 0 → ts ≠ 0 → HlsOut xr xg xb R G B T fh fl fs → Led ι g s' ((a, .tup [.float fh th, .float fl tl, .float fs ts]) :: l) → Q (.ref a) s') :
    wpAny (model prog w) A (call (.ref 28) [.float xr t1, .float xg t2, .float xb t3]) Q E s := by
  refine call_fn (binds := [("r", .float xr t1), ("g", .float xg t2), ("b", .float xb t3)]) D Gd Gd.hls Rm rfl rfl rfl ?hb ?hk ?hn ?h
  case hb => intro fd h1 h2 h3; unfold bindArgs; rw [h1, h2, h3]; rfl
  case hk => exact fun n => kinds_of (k := n) ⟨.inl rfl, .inl rfl, .inl rfl, trivial⟩
  case hn => decide
  intro env A' s' L V R' D'
  replace D' : Led ι g s' ((L, .ns (upd (upd (upd (fun _ => none) "r" (.float xr t1)) "g" (.float xg t2)) "b" (.float xb t3))) :: l) := D'
  replace V : EnvIs env L [("r", .local), ("g", .local), ("b", .local), ("maxc", .local), ("minc", .local), ("sumc", .local), ("rangec", .local), ("l", .local), ("s", .local), ("rc", .local), ("gc", .local), ("bc", .local), ("h", .local), ("max", .globalImplicit), ("min", .globalImplicit)] [] := V
  clear D
  conv in (bodyOf (defAt 2)) => whnf
  have hM := H.m
  have hN := H.n
  have hMN := H.rng
  have hsix : Float64.isZero 0x4018000000000000 = false := by decide +kernel
  have hone : Float64.isZero 0x3ff0000000000000 = false := by decide +kernel
  repeat walk_at "mq"
  (rename Led _ _ _ _ => D1)
  refine b_max3 R'.handled D1 z1 z2 z3 fun tM s2 zM D2 => ?_
  clear D1
  repeat walk_at "mq"
  (rename Led _ _ _ _ => D3)
  refine b_min3 R'.handled D3 z1 z2 z3 fun tN s4 zN D4 => ?_
  clear D3
  repeat walk_at "mq"
  have hU := H.U0
  have hTU := H.TU
  have hb := H.R0
  have hb2 := H.G0
  have hb3 := H.B0
  have hT0 := H.T0
  have hT1 := H.T1
  have hM0 : 0 ≤ mx3 R G B ∧ mx3 R G B ≤ T ∧ 0 ≤ mn3 R G B ∧ mn3 R G B ≤ mx3 R G B := mx3_le H.R0 H.G0 H.B0
  have hS : Rep (Float64.add (fmax3 xr xg xb) (fmin3 xr xg xb)) ((mx3 R G B + mn3 R G B) * U) := by
    have := add_rep hM hN (by rw [← Int.add_mul]; exact H.fit _ (by omega))
    rwa [← Int.add_mul] at this
  have htwo : Float64.isZero 0x4000000000000000 = false := by decide +kernel
  have hr2 : Rep 0x4000000000000000 ((2 * T) * U) := by rw [Int.mul_assoc, hTU]; exact rep2
  have hfl := frac_div hS hr2 hU (by omega) (by omega) (by omega)
  obtain ⟨W, hW1, hW2⟩ := H.half
  have hlr : Rep (Float64.div (Float64.add (fmax3 xr xg xb) (fmin3 xr xg xb)) 0x4000000000000000) ((mx3 R G B + mn3 R G B) * W) := by
    refine div_two (by omega) (by rw [← hW1]; exact hS) (by omega) (hW2 _ (by omega))
  (rename Led _ _ _ _ => D5)
  refine f_div D5 htwo fun tl s6 zl D6 => ?_
  clear D5
  repeat walk_at "mq"
  rw [eq_rep hN hM]
  by_cases hg : mn3 R G B = mx3 R G B
  · refine if_t (decide_eq_true (by rw [hg])) ?_
    repeat walk_at "mq"
    (rename Led _ _ _ _ => D5)
    exact h _ _ _ _ _ _ _ _ (by assumption) zl (by assumption) ⟨hfl, fun _ => ⟨rep_zero, rep_zero⟩, fun q => absurd hg q, fun q => absurd hg q⟩ D5.drop1
  · refine if_f (decide_eq_false (by rw [eq_U hU]; exact hg)) ?_
    have hPpos : 0 < mx3 R G B - mn3 R G B := by omega
    have hzP := notZero hMN (by have := Int.mul_pos hPpos hU; omega)
    repeat walk_at "mq"
    have hTW : T * W = pw 1073 := by
      have e : pw 1074 = 2 * pw 1073 := by rw [show (1074 : Nat) = 1 + 1073 from rfl, pw_add]; rfl
      rw [hW1, one_pw, e, Int.mul_left_comm] at hTU
      omega
    have hle : (Float64.cmp (Float64.div (Float64.add (fmax3 xr xg xb) (fmin3 xr xg xb)) 0x4000000000000000) 0x3fe0000000000000 == some Ordering.lt || Float64.cmp (Float64.div (Float64.add (fmax3 xr xg xb) (fmin3 xr xg xb)) 0x4000000000000000) 0x3fe0000000000000 == some Ordering.eq) = decide (mx3 R G B + mn3 R G B ≤ T) := by
      rw [lt_rep hlr rep_half, eq_rep hlr rep_half, ← hTW]
      have hW0 : 0 < W := by omega
      by_cases hc : mx3 R G B + mn3 R G B ≤ T
      · rw [decide_eq_true hc]
        have := Int.mul_le_mul_of_nonneg_right hc (Int.le_of_lt hW0)
        by_cases q : (mx3 R G B + mn3 R G B) * W < T * W
        · rw [decide_eq_true q]; rfl
        · rw [decide_eq_true (show (mx3 R G B + mn3 R G B) * W = T * W by omega), Bool.or_true]
      · rw [decide_eq_false hc]
        have := Int.mul_lt_mul_of_pos_right (show T < mx3 R G B + mn3 R G B by omega) hW0
        rw [decide_eq_false (by omega), decide_eq_false (by omega)]; rfl
    rw [hle]
    by_cases hc : mx3 R G B + mn3 R G B ≤ T
    · refine if_t (decide_eq_true hc) ?_
      have hfs := frac_div hMN hS hU (by omega) (by omega) (by omega)
      have hzS := notZero hS (by have := Int.mul_pos (show 0 < mx3 R G B + mn3 R G B by omega) hU; omega)
      rw [show mx3 R G B + mn3 R G B = mx3 R G B - mn3 R G B + 2 * min (mn3 R G B) (T - mx3 R G B) by omega] at hfs
      repeat walk_at "mq"
      (rename Led _ _ _ _ => D5)
      refine f_div D5 hzS fun ts s6 zs D6 => ?_
      clear D5
      repeat walk_at "mq"
      (rename Led _ _ _ _ => D7)
      refine f_div D7 hzP fun t8 s8 z8 D8 => ?_
      clear D7
      repeat walk_at "mq"
      (rename Led _ _ _ _ => D9)
      refine f_div D9 hzP fun t10 s10 z10 D10 => ?_
      clear D9
      repeat walk_at "mq"
      (rename Led _ _ _ _ => D11)
      refine f_div D11 hzP fun t12 s12 z12 D12 => ?_
      clear D11
      repeat walk_at "mq"
      cases c1 : (Float64.cmp xr (fmax3 xr xg xb) == some Ordering.eq) with
      | true =>
        refine if_t rfl ?_
        repeat walk_at "mq"
        (rename Led _ _ _ _ => D13)
        refine f_div D13 hsix fun t14 s14 z14 D14 => ?_
        clear D13
        repeat walk_at "mq"
        (rename Led _ _ _ _ => D15)
        refine f_mod D15 hone fun t16 s16 z16 D16 => ?_
        clear D15
        repeat walk_at "mq"
        (rename Led _ _ _ _ => D17)
        refine h _ _ _ _ _ _ _ _ z16 zl zs ⟨hfl, fun q => absurd q hg, fun _ => ?_, fun _ => hfs⟩ D17.drop1
        unfold hueB hueRaw
        rw [c1, if_pos rfl]
      | false =>
        refine if_f rfl ?_
        repeat walk_at "mq"
        cases c2 : (Float64.cmp xg (fmax3 xr xg xb) == some Ordering.eq) with
        | true =>
          refine if_t rfl ?_
          repeat walk_at "mq"
          (rename Led _ _ _ _ => D13)
          refine f_div D13 hsix fun t14 s14 z14 D14 => ?_
          clear D13
          repeat walk_at "mq"
          (rename Led _ _ _ _ => D15)
          refine f_mod D15 hone fun t16 s16 z16 D16 => ?_
          clear D15
          repeat walk_at "mq"
          (rename Led _ _ _ _ => D17)
          refine h _ _ _ _ _ _ _ _ z16 zl zs ⟨hfl, fun q => absurd q hg, fun _ => ?_, fun _ => hfs⟩ D17.drop1
          unfold hueB hueRaw
          rw [c1, if_neg (by decide), c2, if_pos rfl]
        | false =>
          refine if_f rfl ?_
          repeat walk_at "mq"
          (rename Led _ _ _ _ => D13)
          refine f_div D13 hsix fun t14 s14 z14 D14 => ?_
          clear D13
          repeat walk_at "mq"
          (rename Led _ _ _ _ => D15)
          refine f_mod D15 hone fun t16 s16 z16 D16 => ?_
          clear D15
          repeat walk_at "mq"
          (rename Led _ _ _ _ => D17)
          refine h _ _ _ _ _ _ _ _ z16 zl zs ⟨hfl, fun q => absurd q hg, fun _ => ?_, fun _ => hfs⟩ D17.drop1
          unfold hueB hueRaw
          rw [c1, if_neg (by decide), c2, if_neg (by decide)]
    · refine if_f (decide_eq_false hc) ?_
      have hS2 : Rep (Float64.sub (Float64.sub 0x4000000000000000 (fmax3 xr xg xb)) (fmin3 xr xg xb)) ((2 * T - mx3 R G B - mn3 R G B) * U) := by
        have h1 := sub_rep hr2 hM (by rw [← Int.sub_mul]; exact H.fit _ (by omega))
        rw [← Int.sub_mul] at h1
        have h2 := sub_rep h1 hN (by rw [← Int.sub_mul]; exact H.fit _ (by omega))
        rwa [← Int.sub_mul] at h2
      have hfs := frac_div hMN hS2 hU (by omega) (by omega) (by omega)
      have hzS := notZero hS2 (by have := Int.mul_pos (show 0 < 2 * T - mx3 R G B - mn3 R G B by omega) hU; omega)
      rw [show 2 * T - mx3 R G B - mn3 R G B = mx3 R G B - mn3 R G B + 2 * min (mn3 R G B) (T - mx3 R G B) by omega] at hfs
      repeat walk_at "mq"
      (rename Led _ _ _ _ => D5)
      refine f_div D5 hzS fun ts s6 zs D6 => ?_
      clear D5
      repeat walk_at "mq"
      (rename Led _ _ _ _ => D7)
      refine f_div D7 hzP fun t8 s8 z8 D8 => ?_
      clear D7
      repeat walk_at "mq"
      (rename Led _ _ _ _ => D9)
      refine f_div D9 hzP fun t10 s10 z10 D10 => ?_
      clear D9
      repeat walk_at "mq"
      (rename Led _ _ _ _ => D11)
      refine f_div D11 hzP fun t12 s12 z12 D12 => ?_
      clear D11
      repeat walk_at "mq"
      cases c1 : (Float64.cmp xr (fmax3 xr xg xb) == some Ordering.eq) with
      | true =>
        refine if_t rfl ?_
        repeat walk_at "mq"
        (rename Led _ _ _ _ => D13)
        refine f_div D13 hsix fun t14 s14 z14 D14 => ?_
        clear D13
        repeat walk_at "mq"
        (rename Led _ _ _ _ => D15)
        refine f_mod D15 hone fun t16 s16 z16 D16 => ?_
        clear D15
        repeat walk_at "mq"
        (rename Led _ _ _ _ => D17)
        refine h _ _ _ _ _ _ _ _ z16 zl zs ⟨hfl, fun q => absurd q hg, fun _ => ?_, fun _ => hfs⟩ D17.drop1
        unfold hueB hueRaw
        rw [c1, if_pos rfl]
      | false =>
        refine if_f rfl ?_
        repeat walk_at "mq"
        cases c2 : (Float64.cmp xg (fmax3 xr xg xb) == some Ordering.eq) with
        | true =>
          refine if_t rfl ?_
          repeat walk_at "mq"
          (rename Led _ _ _ _ => D13)
          refine f_div D13 hsix fun t14 s14 z14 D14 => ?_
          clear D13
          repeat walk_at "mq"
          (rename Led _ _ _ _ => D15)
          refine f_mod D15 hone fun t16 s16 z16 D16 => ?_
          clear D15
          repeat walk_at "mq"
          (rename Led _ _ _ _ => D17)
          refine h _ _ _ _ _ _ _ _ z16 zl zs ⟨hfl, fun q => absurd q hg, fun _ => ?_, fun _ => hfs⟩ D17.drop1
          unfold hueB hueRaw
          rw [c1, if_neg (by decide), c2, if_pos rfl]
        | false =>
          refine if_f rfl ?_
          repeat walk_at "mq"
          (rename Led _ _ _ _ => D13)
          refine f_div D13 hsix fun t14 s14 z14 D14 => ?_
          clear D13
          repeat walk_at "mq"
          (rename Led _ _ _ _ => D15)
          refine f_mod D15 hone fun t16 s16 z16 D16 => ?_
          clear D15
          repeat walk_at "mq"
          (rename Led _ _ _ _ => D17)
          refine h _ _ _ _ _ _ _ _ z16 zl zs ⟨hfl, fun q => absurd q hg, fun _ => ?_, fun _ => hfs⟩ D17.drop1
          unfold hueB hueRaw
          rw [c1, if_neg (by decide), c2, if_neg (by decide)]
end

noncomputable def FlZ (v : Value) (x : UInt64) : Prop := ∃ t, t ≠ 0 ∧ v = .float x t
noncomputable def frT (T X : Int) : UInt64 := Float64.ofFrac false X.natAbs T.natAbs
structure Pw (T U : Int) : Prop where
  U0 : 0 < U
  fit : ∀ A : Int, A.natAbs ≤ 2 ^ 53 → Fits (A * U).natAbs
  TU : T * U = one'
  half : ∃ V, U = 2 * V ∧ ∀ A : Int, A.natAbs ≤ 2 ^ 53 → Fits (A * V).natAbs
  T0 : 2 ≤ T
  T1 : T ≤ 2 ^ 20
theorem Pw.key {T U X : Int} (W : Pw T U) (h : 0 ≤ X ∧ X ≤ T) : Rep (frT T X) (X * U) := by
  have := W.T0; have := W.T1
  exact frac_exact (by omega) W.U0 W.TU h.1 (W.fit _ (by omega))
theorem Pw.three {T U R G B : Int} (W : Pw T U) (hR : 0 ≤ R ∧ R ≤ T) (hG : 0 ≤ G ∧ G ≤ T) (hB : 0 ≤ B ∧ B ≤ T) : Three (frT T R) (frT T G) (frT T B) R G B T U := by
  exact ⟨W.key hR, W.key hG, W.key hB, W.U0, W.fit, W.TU, W.half, W.T0, W.T1, hR, hG, hB⟩
theorem pw_T {p : Nat} (h1 : 1 ≤ p) (h2 : p ≤ 20) : Pw ((2 : Int) ^ p) (pw (1074 - p)) := by
  have hfit : ∀ k, 53 ≤ k → k ≤ 1990 → ∀ A : Int, A.natAbs ≤ 2 ^ 53 → Fits (A * pw k).natAbs := by
    intro k hk hk2 A hA
    unfold pw
    rw [Int.natAbs_mul, Int.natAbs_natCast]
    exact fits_pow hA hk hk2
  have e : (2 : Int) ^ p = pw p := by unfold pw; rw [Int.natCast_pow]; rfl
  refine ⟨pw_pos _, hfit _ (by omega) (by omega), ?_, ⟨pw (1073 - p), ?_, hfit _ (by omega) (by omega)⟩, ?_, ?_⟩
  · rw [e, ← pw_add, one_pw]; congr 1; omega
  · rw [show 1074 - p = 1 + (1073 - p) by omega, pw_add]; rfl
  · rw [e]; show (2 : Int) ≤ ((2 ^ p : Nat) : Int)
    have : 2 ^ 1 ≤ 2 ^ p := Nat.pow_le_pow_right (by decide) h1
    omega
  · rw [e]; show ((2 ^ p : Nat) : Int) ≤ 2 ^ 20
    have : 2 ^ p ≤ 2 ^ 20 := Nat.pow_le_pow_right (by decide) h2
    omega
theorem eqAt_same {A : Around} {s : Shared} {x y : UInt64} {t u : Tok} {p : Int} (hb : NoneBooked s.heap) (ht : t ≠ 0) (hu : u ≠ 0) (hx : Rep x p) (hy : Rep y p) : EqAt A s (.float x t) (.float y u) true := by
  have := eqAt_float (A := A) (s := s) hb ht hu (fun _ => rfl) hx hy
  rwa [decide_eq_true rfl] at this

section
variable {prog : Program} {w : World} {A : Around} {E : Value → Shared → Prop} {s ι : Shared} {g : Heap} {l : List (Addr × Ob)}

theorem i_divN {a b : Int} {t u : Tok} {z : Int} {Q : Value → Shared → Prop} (D : Led ι g s l) (ha : 0 ≤ a) (hb : 0 < b) (hr : Rep (Float64.ofFrac false a.natAbs b.natAbs) z) (h : ∀ t s', t ≠ 0 → Led ι g s' l → Q (.float (Float64.ofFrac false a.natAbs b.natAbs) t) s') :
    wpAny (model prog w) A (binaryOp .Div (.int a t) (.int b u)) Q E s := by
  have hsg : (decide (a < 0) != decide (b < 0)) = false := by rw [decide_eq_false (by omega), decide_eq_false (by omega)]; rfl
  refine i_div D (by omega) (by rw [hsg]; exact notInf hr) ?_
  rw [hsg]; exact h
theorem t_eq3 {a b : Addr} {x0 x1 x2 y0 y1 y2 : Value} {Q : Value → Shared → Prop} (hl : IsTup s.heap a [x0, x1, x2].toArray) (hb : IsTup s.heap b [y0, y1, y2].toArray) (hu : A.units < cLine) (e0 : EqAt A.in1 s x0 y0 true) (e1 : EqAt A.in1 s x1 y1 true) (e2 : EqAt A.in1 s x2 y2 true)
    (h : Q (.bool true) s) : wpAny (model prog w) A (compareOp .Eq (.ref a) (.ref b)) Q E s := by
  refine t_eq (f := fun _ => true) hl hb hu ?_ h
  intro j h1 h2
  have hj : j < 3 := h1
  match j, hj with
  | 0, _ => exact e0
  | 1, _ => exact e1
  | 2, _ => exact e2
theorem t_eq2 {a b : Addr} {x0 x1 y0 y1 : Value} {Q : Value → Shared → Prop} (hl : IsTup s.heap a [x0, x1].toArray) (hb : IsTup s.heap b [y0, y1].toArray) (hu : A.units < cLine) (e0 : EqAt A.in1 s x0 y0 true) (e1 : EqAt A.in1 s x1 y1 true)
    (h : Q (.bool true) s) : wpAny (model prog w) A (compareOp .Eq (.ref a) (.ref b)) Q E s := by
  refine t_eq (f := fun _ => true) hl hb hu ?_ h
  intro j h1 h2
  have hj : j < 2 := h1
  match j, hj with
  | 0, _ => exact e0
  | 1, _ => exact e1
theorem t_ne2 {a b : Addr} {x0 x1 y0 y1 : Value} {Q : Value → Shared → Prop} (hl : IsTup s.heap a [x0, x1].toArray) (hb : IsTup s.heap b [y0, y1].toArray) (hu : A.units < cLine) (e0 : EqAt A.in1 s x0 y0 true) (e1 : EqAt A.in1 s x1 y1 true)
    (h : Q (.bool false) s) : wpAny (model prog w) A (compareOp .NotEq (.ref a) (.ref b)) Q E s := by
  refine t_ne (f := fun _ => true) hl hb hu ?_ h
  intro j h1 h2
  have hj : j < 2 := h1
  match j, hj with
  | 0, _ => exact e0
  | 1, _ => exact e1
theorem Led.bk (D : Led ι g s l) (G : Grd g) : NoneBooked s.heap := let ⟨mc, n1, n2⟩ := G.booked; ⟨mc, n1.keeps D.sub, n2⟩

theorem told_spec {n : Nat} {a c : Addr} {mv zs : List Value} {R G B T U : Int} {black white : Int} {tT tb tw : Tok} {cor : List Int} {Q : Value → Shared → Prop} (D : Led ι g s l) (Gd : Grd g) (Rm : Room A (n + 2)) (W : Pw T U)
    (hm : g.IsList a mv.toArray) (hmv : IntsAre mv [R, G, B]) (hz : g.IsList c zs.toArray) (hzs : IntsAre zs cor) (hR : 0 ≤ R ∧ R ≤ T) (hG : 0 ≤ G ∧ G ≤ T) (hB : 0 ≤ B ∧ B ≤ T)
    (hbl : black = T - mx3 R G B) (hwh : white = mn3 R G B) (hsum : cor.sum = mx3 R G B - mn3 R G B)
    (hturn : ∃ c0 c1 c2 c3 c4 c5 c6, cor = [c0, c1, c2, c3, c4, c5, c6] ∧ 0 * c0 + 1 * c1 + 2 * c2 + 3 * c3 + 4 * c4 + 5 * c5 + 6 * c6 = (if mx3 R G B = mn3 R G B then 0 else hueT R G B (mx3 R G B) (mx3 R G B - mn3 R G B)))
    (h : ∀ g' s', Sub g g' → Led ι g' s' l → Q (.bool true) s') :
    wpAny (model prog w) A (call (.ref 82) [.ref a, .int T tT, .int black tb, .int white tw, .ref c]) Q E s := by
  refine call_fn (binds := [("colour", .ref a), ("top", .int T tT), ("black", .int black tb), ("white", .int white tw), ("corners", .ref c)]) D Gd Gd.told Rm rfl rfl rfl ?hb ?hk ?hn ?h
  case hb => intro fd h1 h2 h3; unfold bindArgs; rw [h1, h2, h3]; rfl
  case hk => exact fun n => kinds_of (k := n) ⟨.inl rfl, .inr ⟨rfl, rfl⟩, .inl rfl, .inl rfl, .inr ⟨rfl, rfl⟩, trivial⟩
  case hn => decide
  intro env A' s' L V R' D'
  replace D' : Led ι g s' ((L, .ns (upd (upd (upd (fun _ => none) "colour" (.ref a)) "black" (.int black tb)) "white" (.int white tw))) :: (L + 1 + 1, .cell (some (.ref c))) :: (L + 1, .cell (some (.int T tT))) :: l) := D'
  replace V : EnvIs env L [("colour", .local), ("top", .cell), ("black", .local), ("white", .local), ("corners", .cell), ("red", .local), ("green", .local), ("blue", .local), ("hsv", .local), ("hls", .local), ("pure", .local), ("value", .local), ("light", .local), ("turn", .local),
    ("rgb_to_hsv", .globalImplicit), ("rgb_to_hls", .globalImplicit), ("float", .globalImplicit), ("sum", .globalImplicit), ("range", .globalImplicit), ("int", .globalImplicit), ("min", .globalImplicit)]
    [("corners", L + 1 + 1), ("top", L + 1)] := V
  clear D
  conv in (bodyOf (defAt 12)) => whnf
  have hT0 := W.T0
  have hT1 := W.T1
  have H3 := W.three hR hG hB
  have hml := hmv.length
  refine x_asgTup ?hs ?hw ?_
  case hs => rfl
  case hw => rfl
  refine e_comp V (cl := [("top", L + 1)]) rfl rfl (by decide) (by intro _; rfl) ?_
  repeat walk_at "mq"
  (rename Led _ _ _ _ => D1)
  refine it_list D1 hm fun I2 s2 D2 => ?_
  clear D1
  refine comp_run V (iter_list R'.handled hm) (fun i g ys n => All2 FlZ ys (([R, G, B].map (frT T)).take i)) (fun _ _ _ _ _ _ q => q) D2 .nil rfl (by decide) (by rw [hml]; exact (by decide : 3 ≤ sizeLine)) (fun i g' ys n' hi hJ => by rw [hJ.length, List.length_take]; exact Nat.min_le_left _ _) (by intro _; rfl) ?done ?turn
  case turn =>
    rintro cenv C j v g2 ys mc cm tl3 s15 VC hj hP hg2 hJ DC
    clear D2
    replace VC : EnvIs cenv C [(".0", .local), ("part", .local), ("top", .cell)] [("top", L + 1)] := VC
    replace DC : Led ι g2 s15 ((C, Ob.ns mc) :: (L, .ns (upd (upd (upd (fun _ => none) "colour" (.ref a)) "black" (.int black tb)) "white" (.int white tw))) :: (L + 1 + 1, .cell (some (.ref c))) :: (L + 1, .cell (some (.int T tT))) :: (l ++ tl3)) := DC
    obtain ⟨X, hX⟩ : ∃ X, [R, G, B][j]? = some X := ⟨_, List.getElem?_eq_getElem (by rw [← hml]; exact hj)⟩
    obtain ⟨uX, hvX⟩ := IntsAre.item hmv hX
    have hv : v = .int X uX := by
      have e : mv[j]? = some v := hP
      rw [hvX] at e; exact (Option.some.inj e).symm
    subst hv
    have hXb : 0 ≤ X ∧ X ≤ T := by
      have := List.mem_of_getElem? hX
      simp only [List.mem_cons, List.not_mem_nil, or_false] at this
      rcases this with rfl | rfl | rfl <;> assumption
    have hsg : (decide (X < 0) != decide (T < 0)) = false := by rw [decide_eq_false (by omega), decide_eq_false (by omega)]; rfl
    have hrep : Rep (frT T X) (X * U) := W.key hXb
    refine a_name ?_
    walk_at "mq"
    refine ts_nil (if_t rfl ?_)
    repeat walk_at "mq"
    (rename Led _ _ _ _ => D3)
    refine i_div D3 (by omega) (by rw [hsg]; exact notInf hrep) ?_
    rw [hsg]
    intro t4 s4 z4 D4
    refine ⟨g2, _, cm, Sub.refl _, ?_, D4⟩
    have : ([R, G, B].map (frT T))[j]? = some (frT T X) := by rw [List.getElem?_map, hX]; rfl
    rw [List.take_add_one, this]
    exact hJ.snoc ⟨t4, z4, rfl⟩
  case done =>
    intro r3 g1 ys s3 hg1 hJ D3
    clear D2
    obtain ⟨g2, hg2, D4, hr3⟩ := Led.freezeAt (pre := []) D3
    clear D3
    rw [hml] at hJ
    have hJ3 : All2 FlZ ys [frT T R, frT T G, frT T B] := hJ
    obtain ⟨tr, zr, tg, zg, tbl, zb, rfl⟩ : ∃ tr, tr ≠ 0 ∧ ∃ tg, tg ≠ 0 ∧ ∃ tb, tb ≠ 0 ∧ ys = [.float (frT T R) tr, .float (frT T G) tg, .float (frT T B) tb] := by
      cases hJ3 with
      | cons h1 h2 =>
        cases h2 with
        | cons h2 h3 =>
          cases h3 with
          | cons h3 h4 =>
            cases h4
            obtain ⟨t1, z1, rfl⟩ := h1
            obtain ⟨t2, z2, rfl⟩ := h2
            obtain ⟨t3, z3, rfl⟩ := h3
            exact ⟨t1, z1, t2, z2, t3, z3, rfl⟩
    have G2 := Gd.mono (hg1.trans hg2)
    refine a_tupL R'.handled D4 (Heap.PlainList.isList hr3) rfl rfl fun s5 D5 => ?_
    clear D4
    replace D5 : Led ι g2 s5 ((L, .ns (upd (upd (upd (fun _ => none) "colour" (.ref a)) "black" (.int black tb)) "white" (.int white tw))) :: (L + 1 + 1, .cell (some (.ref c))) :: (L + 1, .cell (some (.int T tT))) :: l) := D5
    refine ao_cons (a_name ?_)
    repeat walk_at "mq"
    refine ao_cons (a_name ?_)
    repeat walk_at "mq"
    refine ao_cons (a_name ?_)
    repeat walk_at "mq"
    refine ao_nil ?_
    repeat walk_at "mq"
    refine cw_fn G2.hsv rfl ?_
    repeat walk_at "mq"
    (rename Led _ _ _ _ => D6)
    refine ⟨D6.sub, hsv_spec D6 G2 R' H3 zr zg zb fun aH fh fs fv th ts tv s7 zh zs' zv HO D7 => ?_⟩
    clear D6
    obtain ⟨g3, hg3, D8, hH⟩ := Led.freezeAt (pre := []) D7
    clear D7
    have hH' : IsTup g3 aH [.float fh th, .float fs ts, .float fv tv].toArray := PTup.isTup hH
    have G3 := G2.mono hg3
    simp only [List.nil_append] at D8
    repeat walk_at "mq"
    refine cw_fn G3.hls rfl ?_
    repeat walk_at "mq"
    (rename Led _ _ _ _ => D9)
    refine ⟨D9.sub, hls_spec D9 G3 R' H3 zr zg zb fun aK kh kl ks uh ul us s10 yh yl ys' KO D10 => ?_⟩
    clear D9
    obtain ⟨g4, hg4, D11, hK⟩ := Led.freezeAt (pre := []) D10
    clear D10
    have hK' : IsTup g4 aK [.float kh uh, .float kl ul, .float ks us].toArray := PTup.isTup hK
    have hH4 := hH'.keeps hg4
    have G4 := G3.mono hg4
    simp only [List.nil_append] at D11
    repeat walk_at "mq"
    refine e_comp V (cl := []) rfl rfl (by decide) (by intro _; rfl) ?_
    repeat walk_at "mq"
    (rename Led _ _ _ _ => D12)
    refine t_add D12 (D12.tpG hH4) (D12.tpG hK') (by simp) (by simp) (by exact (by decide : 6 ≤ sizeLine)) fun aS s13 D13 => ?_
    clear D12
    obtain ⟨g5, hg5, D14, hS⟩ := Led.freezeAt (pre := [_]) D13
    clear D13
    have hS' : IsTup g5 aS [.float fh th, .float fs ts, .float fv tv, .float kh uh, .float kl ul, .float ks us].toArray := PTup.isTup hS
    have G5 := G4.mono hg5
    simp only [List.cons_append, List.nil_append] at D14
    refine it_tup D14 hS' fun I15 s15 D15 => ?_
    clear D14
    refine comp_run V (iter_tup R'.handled hS') (fun i g ys n => ys = List.replicate i (.type "float")) (fun _ _ _ _ _ _ q => q) D15 rfl rfl (by decide) (by exact (by decide : 6 ≤ sizeLine)) (fun i g' ys n' hi hJ => by rw [hJ, List.length_replicate]; exact Nat.le_refl _) (by intro _; rfl) ?done2 ?turn2
    case turn2 =>
      rintro cenv C j v g6 ys mc cm tl3 s16 VC hj hP hg6 hJ DC
      clear D15
      replace VC : EnvIs cenv C [(".0", .local), ("part", .local), ("type", .globalImplicit)] [] := VC
      have G6 := G5.mono hg6
      obtain ⟨xf, tf, rfl⟩ : ∃ xf tf, v = .float xf tf := by
        have : j = 0 ∨ j = 1 ∨ j = 2 ∨ j = 3 ∨ j = 4 ∨ j = 5 := lt6 hj
        rcases this with rfl | rfl | rfl | rfl | rfl | rfl <;> exact ⟨_, _, (Option.some.inj hP).symm⟩
      replace DC : Led ι g6 s16 ((C, Ob.ns mc) :: (_ ++ tl3)) := DC
      refine a_name ?_
      walk_at "mq"
      refine ts_nil (if_t rfl ?_)
      repeat walk_at "mq"
      refine b_type (T := "float") (by exact typeIs_float _ _ _) (by decide) ?_
      (rename Led _ _ _ _ => D17)
      refine ⟨g6, _, cm, Sub.refl _, ?_, D17⟩
      rw [hJ, List.replicate_succ']
    case done2 =>
      intro aT g6 ys s16 hg6 hJ D16
      clear D15
      have G6 := G5.mono hg6
      replace D16 := D16.perm (List.Perm.swap _ _ _)
      have hJ' : ys = List.replicate 6 (.type "float") := hJ
      clear hJ
      subst hJ'
      repeat walk_at "mq"
      (rename Led _ _ _ _ => D17)
      refine l_mul (i := 0) (xs := [.type "float"]) (ys := List.replicate 6 (.type "float")) D17 (by walk_at "mq mem") (by decide) (by decide) (show 1 * 6 ≤ 2 ^ 24 by decide) rfl fun aF s18 D18 => ?_
      clear D17
      refine l_ne (f := fun _ => true) (D18.lst (by walk_at "mq mem")) (D18.lst (by walk_at "mq mem")) rfl R'.units0 ?_ ?_
      · intro j h1 h2
        have h3 : (List.replicate 6 (Value.type "float")).toArray[j] = .type "float" := by rw [List.getElem_toArray]; exact List.getElem_replicate _
        show EqAt A'.in1 _ (List.replicate 6 (Value.type "float")).toArray[j] (List.replicate 6 (Value.type "float")).toArray[j] true
        rw [h3]
        exact EqAt.same _
      repeat walk_at "mq"
      refine if_f rfl ?_
      repeat walk_at "mq"
      replace D18 := D18.sublist (.cons₂ _ (.cons _ (.cons _ (.cons _ (.refl _)))))
      have hz6 : g6.IsList c zs.toArray := hz.at fun o e => (hg1.trans (hg2.trans (hg3.trans (hg4.trans (hg5.trans hg6))))) _ _ e
      have hH6 := (hH4.keeps hg5).keeps hg6
      have hK6 := (hK'.keeps hg5).keeps hg6
      repeat walk_at "mq"
      refine b_sum R'.handled D18 (D18.lstG hz6) hzs fun tP s19 D19 => ?_
      clear D18
      have hM0 : 0 ≤ mx3 R G B ∧ mx3 R G B ≤ T ∧ 0 ≤ mn3 R G B ∧ mn3 R G B ≤ mx3 R G B := mx3_le hR hG hB
      obtain ⟨pu, hpu⟩ : ∃ pu, pu = cor.sum := ⟨_, rfl⟩
      rw [← hpu] at hsum ⊢
      have hMu : mx3 R G B = pu + white := by omega
      have hrv : Rep (Float64.ofFrac false (pu + white).natAbs T.natAbs) ((pu + white) * U) := W.key (hMu ▸ ⟨hM0.1, hM0.2.1⟩)
      obtain ⟨zl, hl1, hl2⟩ := KO.l
      rw [show mx3 R G B + mn3 R G B = pu + 2 * white by omega] at hl2
      have hv1 := HO.v
      rw [hMu] at hv1
      repeat walk_at "mq"
      (rename Led _ _ _ _ => D20)
      refine i_divN D20 (by omega) (by omega) hrv fun tV s21 zV D21 => ?_
      clear D20
      repeat walk_at "mq"
      (rename Led _ _ _ _ => D22)
      refine i_mul D22 (IntMulOk.of_left (by decide +kernel)) fun t23 s23 D23 => ?_
      clear D22
      repeat walk_at "mq"
      (rename Led _ _ _ _ => D24)
      refine i_mul D24 (IntMulOk.of_left (by decide +kernel)) fun t25 s25 D25 => ?_
      clear D24
      refine i_divN D25 (by omega) (by omega) hl2 fun tL s26 zL D26 => ?_
      clear D25
      repeat walk_at "mq"
      by_cases hp0 : pu = 0
      · refine if_t (by simpa using hp0) ?_
        have hgr : mn3 R G B = mx3 R G B := by omega
        obtain ⟨gh, gs⟩ := HO.grey hgr
        obtain ⟨qh, qs⟩ := KO.grey hgr
        refine x_ret (BoolOp_and ?_)
        repeat walk_at "mq"
        (rename Led _ _ _ _ => D27)
        refine t_eq3 (D27.tpG hH6) (D27.tp (by walk_at "mq mem")) R'.units0 (eqAt_same (D27.bk G6) zh (by assumption) gh rep_zero) (eqAt_same (D27.bk G6) zs' (by assumption) gs rep_zero) (eqAt_same (D27.bk G6) zv zV hv1 hrv) ?_
        repeat walk_at "mq"
        refine if_t rfl (BoolOp_one ?_)
        repeat walk_at "mq"
        (rename Led _ _ _ _ => D28)
        refine t_eq3 (D28.tpG hK6) (D28.tp (by walk_at "mq mem")) R'.units0 (eqAt_same (D28.bk G6) yh (by assumption) qh rep_zero) (eqAt_same (D28.bk G6) yl zL hl1 hl2) (eqAt_same (D28.bk G6) ys' (by assumption) qs rep_zero) ?_
        repeat walk_at "mq"
        exact h g6 _ (hg1.trans (hg2.trans (hg3.trans (hg4.trans (hg5.trans hg6))))) D28.drop1.drop1.drop1.drop1.drop1
      · refine if_f (by simpa using hp0) ?_
        repeat walk_at "mq"
        have hg : mn3 R G B ≠ mx3 R G B := by omega
        obtain ⟨c0, c1, c2, c3, c4, c5, c6, hcor, hturn⟩ := hturn
        rw [if_neg (fun e => hg e.symm), ← hsum] at hturn
        refine e_comp V (cl := [("corners", L + 1 + 1)]) rfl rfl (by decide) (by intro _; rfl) ?_
        repeat walk_at "mq"
        (rename Led _ _ _ _ => D28)
        refine call_rng1 D28 fun r29 s29 D29 => ?_
        refine it_range' (n := 7) D29 (by decide +kernel) (by decide +kernel) fun I30 s30 D30 => ?_
        clear D28 D29
        refine comp_run V (iter_range R'.handled 0 1 7) (fun i g ys n => IntsAre ys ([0 * c0, 1 * c1, 2 * c2, 3 * c3, 4 * c4, 5 * c5, 6 * c6].take i)) (fun _ _ _ _ _ _ q => q) D30 .nil rfl (by decide) (by decide) (fun i g' ys n' hi hJ => by rw [hJ.length, List.length_take]; exact Nat.min_le_left _ _) (by intro _; rfl) ?done3 ?turn3
        case turn3 =>
          rintro cenv C j v g7 ys mc cm tl3 s31 VC hj ⟨tj, rfl⟩ hg7 hJ DC
          clear D30
          replace VC : EnvIs cenv C [(".0", .local), ("k", .local), ("corners", .cell)] [("corners", L + 1 + 1)] := VC
          simp only [List.cons_append] at DC
          replace DC : Led ι g7 s31 ((C, Ob.ns mc) :: _ :: (L + 1 + 1, .cell (some (.ref c))) :: _ :: (l ++ tl3)) := DC
          have hz7 : g7.IsList c zs.toArray := hz6.at fun o e => hg7 _ _ e
          obtain ⟨X, hX, hXj⟩ : ∃ X, cor[j]? = some X ∧ [0 * c0, 1 * c1, 2 * c2, 3 * c3, 4 * c4, 5 * c5, 6 * c6][j]? = some ((0 + (j : Int) * 1) * X) := by
            rw [hcor]
            have : j = 0 ∨ j = 1 ∨ j = 2 ∨ j = 3 ∨ j = 4 ∨ j = 5 ∨ j = 6 := lt7 hj
            rcases this with rfl | rfl | rfl | rfl | rfl | rfl | rfl <;> exact ⟨_, rfl, rfl⟩
          have hbits : IntMulOk (0 + (j : Int) * 1) X := by
            refine IntMulOk.of_left ?_
            have : j = 0 ∨ j = 1 ∨ j = 2 ∨ j = 3 ∨ j = 4 ∨ j = 5 ∨ j = 6 := lt7 hj
            rcases this with rfl | rfl | rfl | rfl | rfl | rfl | rfl <;> decide +kernel
          obtain ⟨uX, hvX⟩ := IntsAre.item hzs hX
          have e3 : (0 + (j : Int) * 1).toNat = j := nat_turn j
          refine a_name ?_
          walk_at "mq"
          refine ts_nil (if_t rfl ?_)
          repeat walk_at "mq"
          refine s_list (by walk_at "mq lst") (by omega) (by omega) (by rw [e3]; exact hvX) (by with_unfolding_all rfl) ?_
          (rename Led _ _ _ _ => D32)
          refine i_mul D32 hbits fun t33 s33 D33 => ?_
          refine ⟨g7, _, cm, Sub.refl _, ?_, D33⟩
          rw [List.take_add_one, hXj]
          exact hJ.append (.cons _ _ .nil)
        case done3 =>
          intro aT2 g7 ys s31 hg7 hJ D31
          clear D30
          have G7 := G6.mono hg7
          have hH7 := hH6.keeps hg7
          have hK7 := hK6.keeps hg7
          repeat walk_at "mq"
          refine b_sum R'.handled D31 (D31.lst (by walk_at "mq mem")) hJ fun t32 s32 D32 => ?_
          clear D31
          have D33 := D32.drop1
          clear D32
          have hsm : ([0 * c0, 1 * c1, 2 * c2, 3 * c3, 4 * c4, 5 * c5, 6 * c6].take 7).sum = hueT R G B (mx3 R G B) pu := by
            rw [← hturn]
            show ([0 * c0, 1 * c1, 2 * c2, 3 * c3, 4 * c4, 5 * c5, 6 * c6] : List Int).sum = _
            exact sum7 _ _ _ _ _ _ _
          rw [hsm]
          repeat walk_at "mq"
          refine isTrue_or ?_
          repeat walk_at "mq"
          have HH := H3.hue hg
          obtain ⟨zH, hzH, w0, w1, w2, w3⟩ := hue_near HH
          obtain ⟨nb1, nb2⟩ := hueN_bounds HH
          rw [← hsum] at w2 w3 nb1 nb2
          have hP0 : 0 < pu := by omega
          have ht0 : 0 ≤ hueT R G B (mx3 R G B) pu := by unfold hueT; split <;> omega
          rw [← HO.h hg] at hzH
          have hzK : Rep kh zH := by rw [KO.h hg, ← HO.h hg]; exact hzH
          obtain ⟨da, dn, de, hd1, hd2⟩ := turn_int hzH w0 w1 hP0 (by omega) ht0 w2 w3
          (rename Led _ _ _ _ => D34)
          refine s_tup (j := 0) (x := .float kh uh) (D34.tpG hK7) (by decide) (by decide) rfl rfl (by with_unfolding_all rfl) ?_
          repeat walk_at "mq"
          (rename Led _ _ _ _ => D35)
          refine s_tup (j := 0) (x := .float fh th) (D35.tpG hH7) (by decide) (by decide) rfl rfl (by with_unfolding_all rfl) ?_
          repeat walk_at "mq"
          refine if_f (by rw [bne, eq_rep hzK hzH, decide_eq_true rfl]; rfl) ?_
          refine isTrue_or ?_
          repeat walk_at "mq"
          (rename Led _ _ _ _ => D36)
          refine s_tup (j := 0) (x := .float fh th) (D36.tpG hH7) (by decide) (by decide) rfl rfl (by with_unfolding_all rfl) ?_
          repeat walk_at "mq"
          (rename Led _ _ _ _ => D37)
          have big : ∀ i : Int, i.natAbs ≤ 2 ^ 20 → i.natAbs < 2 ^ 1023 := fun i hi => Nat.lt_of_le_of_lt hi (Nat.pow_lt_pow_right (by decide) (by decide))
          refine fi_mul D37 (big 6 (by decide)) fun t38 s38 z38 D38 => ?_
          clear D37
          repeat walk_at "mq"
          (rename Led _ _ _ _ => D39)
          refine fi_mul D39 (big pu (by omega)) fun t40 s40 z40 D40 => ?_
          clear D39
          repeat walk_at "mq"
          (rename Led _ _ _ _ => D41)
          refine b_int D41 hd1 fun t42 s42 D42 => ?_
          clear D41
          rw [hd2]
          repeat walk_at "mq"
          refine if_f (by simp) ?_
          refine isTrue_or_nil (if_f rfl ?_)
          repeat walk_at "mq"
          obtain ⟨zs1, hs1, hs2⟩ := HO.s hg
          rw [← hsum, hMu] at hs2
          obtain ⟨zs3, hs3, hs4⟩ := KO.s hg
          rw [← hsum, ← hwh, ← hbl] at hs4
          refine e_sl1 ?_
          repeat walk_at "mq"
          (rename Led _ _ _ _ => D43)
          refine n_slice D43 fun sl s44 hsl D44 => ?_
          clear D43
          refine t_slice (k := 1) (xs := [.float fh th, .float fs ts, .float fv tv]) D44 (D44.tpG hH7) hsl (by decide) (by exact (by decide : 1 ≤ 3)) (by exact (by decide : 3 ≤ sizeLine)) (by with_unfolding_all rfl) fun aX s45 D45 => ?_
          clear D44
          replace D45 : Led ι g7 s45 (_ :: (aX, .tup [.float fs ts, .float fv tv]) :: _) := D45
          repeat walk_at "mq"
          (rename Led _ _ _ _ => D46)
          refine i_divN D46 (by omega) (by omega) hs2 fun t47 s47 z47 D47 => ?_
          clear D46
          repeat walk_at "mq"
          (rename Led _ _ _ _ => D48)
          refine t_ne2 (D48.tp (xs := [.float fs ts, .float fv tv]) (by walk_at "mq mem")) (D48.tp (by walk_at "mq mem")) R'.units0 (eqAt_same (D48.bk G7) zs' z47 hs1 hs2) (eqAt_same (D48.bk G7) zv zV hv1 hrv) ?_
          repeat walk_at "mq"
          refine if_f rfl ?_
          repeat walk_at "mq"
          refine e_sl1 ?_
          repeat walk_at "mq"
          (rename Led _ _ _ _ => D49)
          refine n_slice D49 fun sl2 s50 hsl2 D50 => ?_
          clear D49
          refine t_slice (k := 1) (xs := [.float kh uh, .float kl ul, .float ks us]) D50 (D50.tpG hK7) hsl2 (by decide) (by exact (by decide : 1 ≤ 3)) (by exact (by decide : 3 ≤ sizeLine)) (by with_unfolding_all rfl) fun aY s51 D51 => ?_
          clear D50
          replace D51 : Led ι g7 s51 (_ :: (aY, .tup [.float kl ul, .float ks us]) :: _) := D51
          repeat walk_at "mq"
          (rename Led _ _ _ _ => D52)
          refine b_min2 R'.handled D52 fun t53 s53 D53 => ?_
          clear D52
          refine i_mul D53 (IntMulOk.of_left (by decide +kernel)) fun t54 s54 D54 => ?_
          clear D53
          repeat walk_at "mq"
          (rename Led _ _ _ _ => D55)
          refine i_divN D55 (by omega) (by omega) hs4 fun t56 s56 z56 D56 => ?_
          clear D55
          repeat walk_at "mq"
          (rename Led _ _ _ _ => D57)
          refine t_eq2 (D57.tp (xs := [.float kl ul, .float ks us]) (by walk_at "mq mem")) (D57.tp (by walk_at "mq mem")) R'.units0 (eqAt_same (D57.bk G7) yl zL hl1 hl2) (eqAt_same (D57.bk G7) ys' z56 hs3 hs4) ?_
          repeat walk_at "mq"
          exact h g7 _ (hg1.trans (hg2.trans (hg3.trans (hg4.trans (hg5.trans (hg6.trans hg7)))))) D57.drop1.drop1.drop1.drop1.drop1.drop1.drop1
end

section
variable {prog : Program} {w : World} {A : Around} {E : Value → Shared → Prop} {s ι : Shared} {g : Heap} {l : List (Addr × Ob)}

noncomputable def RowV (g : Heap) (v : Value) (cs : List Col) : Prop := ∃ r, v = .ref r ∧ RowAt g r cs
theorem RowV.mono {g g' : Heap} {v : Value} {cs : List Col} (h : RowV g v cs) (k : Sub g g') : RowV g' v cs := by
  obtain ⟨r, e, h⟩ := h
  exact ⟨r, e, h.mono k⟩
theorem Levels.two {T : Int} {cs : List Col} {lv : List Int} (h : Levels T cs lv) (hT : 2 ≤ T) : 2 ≤ lv.length := by
  have h1 := h.head
  have h2 := h.last
  match lv, h1, h2 with
  | [x], h1, h2 => simp at h1 h2; omega
  | x :: y :: r, _, _ => simp
noncomputable def MedAt (rcs : List Col) (idx : Nat) (v : Value) (j : Nat) : Prop := ∃ k t, ∃ ms : List Int, v = .int k t ∧ ms.Perm (rcs.map (cmp3 j)) ∧ ms.Pairwise (· ≤ ·) ∧ ms[idx]? = some k
theorem laysOf_three (cs : List Col) : ∀ lv : List Int, ∀ y ∈ laysOf cs lv, y.2.length = 3
  | [], y, h => by simp [laysOf] at h
  | [_], y, h => by simp [laysOf] at h
  | a :: b :: r, y, h => by
    simp only [laysOf, List.mem_cons] at h
    rcases h with rfl | h
    · rfl
    · exact laysOf_three cs (b :: r) y h
theorem good_cmp {T : Int} {c : Col} (h : Good T c) (j : Nat) : 0 ≤ cmp3 j c ∧ cmp3 j c ≤ T := by
  match j with
  | 0 => exact h.1
  | 1 => exact h.2.1
  | j + 2 => exact h.2.2
theorem law_spec {n : Nat} {a : Addr} {vs : List Value} {ns : List Int} {Q : Value → Shared → Prop} (D : Led ι g s l) (Gd : Grd g) (F : FnAt g 87 13) (Rm : Room A (n + 5)) (hl : g.IsList a vs.toArray) (hi : IntsAre vs ns) (h64 : ns.length ≤ 63)
    (h : ∀ g' s', Sub g g' → Led ι g' s' l → Q (.bool true) s') :
    wpAny (model prog w) A (call (.ref 87) [.ref a]) Q E s := by
  refine call_fn (binds := [("script", .ref a)]) D Gd F Rm rfl rfl rfl ?hb ?hk ?hn ?h
  case hb => intro fd h1 h2 h3; unfold bindArgs; rw [h1, h2, h3]; rfl
  case hk => exact fun n => kinds_of (k := n) ⟨.inl rfl, trivial⟩
  case hn => decide
  intro env A' s' L V R' D'
  replace D' : Led ι g s' ((L, .ns (upd (fun _ => none) "script" (.ref a))) :: (L + 1, .cell none) :: l) := D'
  replace V : EnvIs env L [("script", .local), ("top", .local), ("colours", .local), ("row", .cell), ("layers", .local), ("half", .local), ("lower", .local), ("upper", .local), ("middle", .local), ("least", .local), ("black", .local), ("white", .local), ("corners", .local),
    ("_law_colours", .globalImplicit), ("_law_layers", .globalImplicit), ("len", .globalImplicit), ("range", .globalImplicit), ("_law_counted", .globalImplicit), ("_law_told", .globalImplicit)]
    [("row", L + 1)] := V
  clear D
  conv in (bodyOf (defAt 13)) => whnf
  repeat walk_at "mq"
  have hvl : vs.length = ns.length := hi.length
  refine wpAny_mono (Q := fun v s' => ∃ (p : Nat) (t : Tok), 1 ≤ p ∧ p ≤ 20 ∧ v = .int ((2 : Int) ^ p) t ∧ Led ι g s' ((L, .ns (upd (fun _ => none) "script" (.ref a))) :: (L + 1, .cell none) :: l)) ?top ?rest (fun _ _ e => e)
  case top =>
    refine IfExp_ (isTrue_plain ?_)
    repeat walk_at "mq"
    refine wpAny_truthy_list (D'.lstG hl) (by rw [List.size_toArray]; omega) ?_
    have D0 := D'.tok (n := s'.toks + 1 + 1)
    clear D'
    cases ns with
    | nil =>
      have : vs = [] := List.length_eq_zero_iff.mp hvl
      subst this
      refine if_f rfl ?_
      repeat walk_at "mq"
      (rename Led _ _ _ _ => D1)
      exact ⟨1, _, Nat.le_refl _, by decide, rfl, D1⟩
    | cons x ns =>
      obtain ⟨ux, hx⟩ := IntsAre.item hi (i := 0) rfl
      refine if_t (by cases vs with | nil => simp at hvl | cons _ _ => rfl) ?_
      repeat walk_at "mq"
      refine s_list (Led.lstG (by assumption) hl) (by decide) (by decide) hx (by with_unfolding_all rfl) ?_
      repeat walk_at "mq"
      (rename Led _ _ _ _ => D1)
      have hm : 0 ≤ x.fmod 20 ∧ x.fmod 20 < 20 := by
        rw [Int.fmod_eq_emod_of_nonneg x (by decide)]; omega
      have hb2 : Builtin.Int.intBits 2 = 2 := by decide +kernel
      refine i_pow D1 (by omega) (by rw [hb2]; omega) fun t2 s2 D2 => ?_
      exact ⟨(x.fmod 20 + 1).toNat, _, by omega, by omega, rfl, D2⟩
  case rest =>
    rintro v s1 ⟨p, tT, hp1, hp2, rfl, D1⟩
    clear D'
    have W := pw_T hp1 hp2
    repeat walk_at "mq"
    refine cw_fn Gd.colours rfl ?_
    repeat walk_at "mq"
    (rename Led _ _ _ _ => D2)
    refine ⟨D2.sub, colours_spec D2 Gd R' hl hi h64 W.T0 W.T1 fun r cs g1 s3 hg1 hrow hc2 hc5 hgood D3 => ?_⟩
    clear D2
    have G1 := Gd.mono hg1
    obtain ⟨cv, hrow1, hrow2⟩ := hrow
    have hcv := hrow2.length
    repeat walk_at "mq"
    refine x_for (by intro _; rfl) ?_
    refine e_bin ?_
    refine e_comp V (cl := []) rfl rfl (by decide) (by intro _; rfl) ?_
    repeat walk_at "mq"
    (rename Led _ _ _ _ => D4)
    refine it_list D4 hrow1 fun I5 s5 D5 => ?_
    clear D4
    refine comp_run V (iter_list R'.handled hrow1) (fun i g ys n => All2 (RowV g) ys ((cs.take i).map fun c => [c])) (fun _ _ _ _ _ _ q => q) D5 .nil rfl (by decide) (by rw [hcv]; exact Nat.le_trans hc5 (by decide)) (fun i g' ys n' hi hJ => by rw [hJ.length, List.length_map, List.length_take]; exact Nat.min_le_left _ _) (by intro _; rfl) ?done ?turn
    case turn =>
      rintro cenv C j v g2 ys mc cm tl3 s6 VC hj hP hg2 hJ DC
      clear D5
      replace VC : EnvIs cenv C [(".0", .local), ("colour", .local)] [] := VC
      replace DC : Led ι g2 s6 ((C, Ob.ns mc) :: (_ ++ tl3)) := DC
      obtain ⟨cc, hcc, hca⟩ := hrow2.get hP
      refine a_name ?_
      walk_at "mq"
      refine ts_nil (if_t rfl ?_)
      repeat walk_at "mq"
      (rename Led _ _ _ _ => D7)
      obtain ⟨g3, hg3, D8, hq⟩ := Led.freezeAt (pre := [_]) D7
      refine ⟨g3, _, cm, hg3, ?_, D8⟩
      rw [List.take_add_one, hcc, List.map_append]
      exact (hJ.mono fun _ _ q => q.mono hg3).snoc ⟨_, rfl, _, Heap.PlainList.isList hq, .cons (hca.mono (hg2.trans hg3)) .nil⟩
    case done =>
      intro aR g2 ys s6 hg2 hJ D6
      clear D5
      rw [hcv, List.take_of_length_le (Nat.le_refl _)] at hJ
      have G2 := G1.mono hg2
      replace D6 := D6.perm (List.Perm.swap _ _ _)
      repeat walk_at "mq"
      refine e_sl1 ?_
      repeat walk_at "mq"
      (rename Led _ _ _ _ => D7)
      refine n_slice D7 fun sl s8 hsl D8 => ?_
      clear D7
      have hrow1' : g2.IsList r cv.toArray := hrow1.at fun o e => hg2 _ _ e
      refine l_slice (ys := cv.drop 1) D8 (D8.lstG hrow1') (.int _ _) .none hsl ?hpick (by rw [hcv]; exact Nat.le_trans hc5 (by decide)) (by with_unfolding_all rfl) fun aD s9 D9 => ?_
      case hpick =>
        unfold kms_pick
        have e1 : kms_lo (some 1) cv.length = 1 := by unfold kms_lo; simp; omega
        have e2 : kms_hi none cv.length = cv.length := rfl
        rw [e1, e2]
        exact List.take_of_length_le (by rw [List.length_drop]; exact Nat.le_refl _)
      clear D8
      repeat walk_at "mq"
      (rename Led _ _ _ _ => D10)
      have hyl : ys.length = cs.length := by rw [hJ.length, List.length_map]
      refine l_add D10 (by walk_at "mq lst") (by walk_at "mq lst") (by rw [hyl]; exact Nat.le_trans (show _ ≤ 20 by simp; omega) (by decide)) fun aL s11 D11 => ?_
      clear D10
      obtain ⟨g3, hg3, D12, hq1⟩ := Led.freezeAt (pre := [_]) D11
      clear D11
      obtain ⟨g4, hg4, D13, hq2⟩ := Led.freezeAt (pre := [_, _]) D12
      clear D12
      have D14 := D13.sublist (.cons₂ _ (.cons _ (.cons _ (.refl _))))
      clear D13
      have hg14 : Sub g1 g4 := hg2.trans (hg3.trans hg4)
      have hL4 : g4.IsList aL (ys ++ [Value.ref r, Value.ref aD]).toArray := (Heap.PlainList.isList hq1).at fun o e => hg4 _ _ e
      have hD4 : g4.IsList aD (cv.drop 1).toArray := Heap.PlainList.isList hq2
      have hrows : All2 (RowV g4) (ys ++ [Value.ref r, Value.ref aD]) (cs.map (fun c => [c]) ++ [cs, cs.drop 1]) := by
        refine (hJ.mono fun _ _ q => q.mono (hg3.trans hg4)).append (.cons ⟨r, rfl, cv, hrow1.at fun o e => hg14 _ _ e, hrow2.mono fun _ _ q => q.mono hg14⟩ (.cons ⟨aD, rfl, _, hD4, ?_⟩ .nil))
        exact (hrow2.mono fun _ _ q => q.mono hg14).drop1
      have hok : ∀ rw ∈ cs.map (fun c => [c]) ++ [cs, cs.drop 1], 1 ≤ rw.length ∧ rw.length ≤ 5 ∧ ∀ c ∈ rw, Good ((2 : Int) ^ p) c := by
        intro rw hrw
        rcases List.mem_append.mp hrw with hrw | hrw
        · obtain ⟨c, hc, rfl⟩ := List.mem_map.mp hrw
          exact ⟨by simp, by simp, fun c' hc' => by simp at hc'; subst hc'; exact hgood _ hc⟩
        · simp only [List.mem_cons, List.not_mem_nil, or_false] at hrw
          rcases hrw with rfl | rfl
          · exact ⟨by omega, hc5, hgood⟩
          · refine ⟨by rw [List.length_drop]; omega, by rw [List.length_drop]; omega, fun c hc => hgood c (List.mem_of_mem_drop hc)⟩
      have G4 := G1.mono hg14
      refine it_list D14 hL4 fun I15 s15 D15 => ?_
      clear D14
      refine for_iter (iter_list R'.handled hL4) (f₀ := [_, _]) (l := l) (fun i g f => ∃ (m : Str → Option Value) (v : Option Value), f = [(L, Ob.ns m), (L + 1, .cell v)] ∧ m "top" = some (.int ((2 : Int) ^ p) tT)) D15
        ⟨_, _, rfl, by walk_at "mq look"⟩ (by intro _; rfl) ?turn ?done
      case done =>
        rintro g5 f s16 hg5 ⟨m, v, rfl, hm⟩ D16
        clear D15
        repeat walk_at "mq"
        exact h g5 _ (hg1.trans (hg14.trans hg5)) D16.drop1.drop1
      case turn =>
        rintro i v g5 f tl s16 hlt hP hg5 ⟨m, vv, rfl, hm⟩ D16
        clear D15
        replace D16 : Led ι g5 s16 ((L, Ob.ns m) :: (L + 1, .cell vv) :: tl) := D16
        obtain ⟨rcs, hrcs, hrv⟩ := hrows.get hP
        obtain ⟨rr, rfl, hrr⟩ := hrv
        obtain ⟨ok1, ok5, okg⟩ := hok rcs (List.mem_of_getElem? hrcs)
        have hrr5 := hrr.mono hg5
        have G5 := G4.mono hg5
        refine a_name ?_
        repeat walk_at "mq"
        refine cw_fn G5.layers rfl ?_
        repeat walk_at "mq"
        (rename Led _ _ _ _ => D17)
        refine ⟨D17.sub, layers_spec D17 G5 R' hrr5 ok1 ok5 okg W.T0 W.T1 fun aY lv ws g6 s18 hg6 hlev hY hlay D18 => ?_⟩
        clear D17
        have G6 := G5.mono hg6
        repeat walk_at "mq"
        (rename Led _ _ _ _ => D19)
        have hwl := hlay.length
        rw [laysOf_length] at hwl
        have hlv2 := hlev.two W.T0
        refine l_eq_len (D19.lstG hY) (D19.lst (by walk_at "mq mem")) (by simp; intro e; subst e; simp at hwl; omega) R'.units0 ?_
        repeat walk_at "mq"
        refine if_f rfl ?_
        replace D19 := D19.sublist (.cons₂ _ (.cons _ (.refl _)))
        obtain ⟨rv, hrv1, hrv2⟩ := hrr5.mono hg6
        have hrvl := hrv2.length
        repeat walk_at "mq"
        (rename Led _ _ _ _ => D20)
        refine b_len D20 (D20.lstG hrv1) (by omega) fun t21 s21 D21 => ?_
        clear D20
        repeat walk_at "mq"
        (rename Led _ _ _ _ => D22)
        refine b_len D22 (D22.lstG hrv1) (by omega) fun t23 s23 D23 => ?_
        clear D22
        repeat walk_at "mq"
        (rename Led _ _ _ _ => D24)
        obtain ⟨g7, hg7, D25, hqh⟩ := Led.freezeAt (pre := [_]) D24
        clear D24
        have G7 := G6.mono hg7
        simp only [List.cons_append, List.nil_append] at D25
        refine x_comp V (cl := [("row", L + 1)]) rfl rfl (by decide) (by intro _; rfl) rfl rfl rfl ?_
        repeat walk_at "mq"
        (rename Led _ _ _ _ => E81)
        refine call_rng1 E81 fun r8 q81 E82 => ?_
        refine it_range' (n := 3) E82 (by decide +kernel) (by decide +kernel) fun I8 q82 E83 => ?_
        clear E81 E82
        refine comp_use (K := fun s' => wpAny (model prog w) A' (execs _ env) _ _ s') V (iter_range R'.handled 0 1 3) (fun q g ys n => All2 (MedAt rcs ((rcs.length - 1) / 2)) ys (List.range q)) (fun _ _ _ _ _ _ q => q) E83
          .nil rfl (by decide) (by decide) (fun q g' ys n' hq hJ => by rw [hJ.length, List.length_range]; exact Nat.le_refl _) (by intro _; rfl) rfl ?done8 ?turn8
        case turn8 =>
          rintro cenv C j v gA ys mc cm tl3 q83 VC hj ⟨tj, rfl⟩ hgA hJm DC
          clear E83
          replace VC : EnvIs cenv C [(".0", .local), ("j", .cell), ("median_low", .globalImplicit), ("row", .cell)] [("j", C + 1), ("row", L + 1)] := VC
          replace DC : Led ι gA q83 ((C, Ob.ns mc) :: (C + 1, Ob.cell (cm "j")) :: _ :: (L + 1, Ob.cell (some (.ref rr))) :: (tl ++ tl3)) := DC
          have GA := G7.mono hgA
          have hrvA : gA.IsList rr rv.toArray := hrv1.at fun o e => (hg7.trans hgA) _ _ e
          have hcolA : All2 (ColAt gA) rv rcs := hrv2.mono fun _ _ q => q.mono (hg7.trans hgA)
          refine a_name ?_
          walk_at "mq"
          refine ts_nil (if_t rfl ?_)
          repeat walk_at "mq"
          refine cw_fn GA.low rfl ?_
          repeat walk_at "mq"
          refine e_comp VC (cl := [("j", C + 1)]) rfl rfl (by decide) (by intro _; rfl) ?_
          repeat walk_at "mq"
          (rename Led _ _ _ _ => F1)
          refine it_list F1 hrvA fun IB sB F2 => ?_
          clear F1
          refine comp_run VC (iter_list R'.handled hrvA) (fun i g ys n => IntsAre ys ((rcs.map (cmp3 j)).take i)) (fun _ _ _ _ _ _ q => q) F2 .nil rfl (by decide) (by rw [hrvl]; exact Nat.le_trans ok5 (by decide)) (fun i g' ys n' hi hJ => by rw [hJ.length, List.length_take]; exact Nat.min_le_left _ _) (by intro _; rfl) ?doneI ?turnI
          case turnI =>
            intro cenv2 C2 q v2 gB ys2 mc2 cm2 tl4 sC VC2 hlt2 hP2 hgB hJ2 DC2
            clear F2
            replace VC2 : EnvIs cenv2 C2 [(".0", .local), ("colour", .local), ("j", .cell)] [("j", C + 1)] := VC2
            replace DC2 : Led ι gB sC ((C2, Ob.ns mc2) :: (C, Ob.ns mc) :: (C + 1, Ob.cell (some (.int (0 + (j : Int) * 1) tj))) :: _) := DC2
            obtain ⟨cc, hcc, hca⟩ := hcolA.get hP2
            obtain ⟨b, u1, u2, u3, rfl, hb⟩ := hca
            have hbB := hb.keeps hgB
            obtain ⟨uj, hcj⟩ : ∃ uj, [Value.int cc.1 u1, Value.int cc.2.1 u2, Value.int cc.2.2 u3][j]? = some (.int (cmp3 j cc) uj) := by
              have : j = 0 ∨ j = 1 ∨ j = 2 := lt3 hj
              rcases this with rfl | rfl | rfl
              · exact ⟨_, rfl⟩
              · exact ⟨_, rfl⟩
              · exact ⟨_, rfl⟩
            have hsi : seqIndex? (0 + (j : Int) * 1) [Value.int cc.1 u1, Value.int cc.2.1 u2, Value.int cc.2.2 u3].length = some j := by
              have : j = 0 ∨ j = 1 ∨ j = 2 := lt3 hj
              rcases this with rfl | rfl | rfl <;> rfl
            refine a_name ?_
            walk_at "mq"
            refine ts_nil (if_t rfl ?_)
            repeat walk_at "mq"
            (rename Led _ _ _ _ => F3)
            refine s_tup (F3.tpG hbB) (by omega) (by omega) hsi hcj (by with_unfolding_all rfl) ?_
            refine ⟨gB, _, cm2, Sub.refl _, ?_, F3⟩
            have : (rcs.map (cmp3 j))[q]? = some (cmp3 j cc) := by rw [List.getElem?_map, hcc]; rfl
            rw [List.take_add_one, this]
            exact hJ2.append (.cons _ _ .nil)
          case doneI =>
            intro aZ gB ys2 sC hgB hJ2 F4
            clear F2
            rw [hrvl, List.take_of_length_le (by rw [List.length_map]; exact Nat.le_refl _)] at hJ2
            obtain ⟨gC, hgC, F5, hqZ⟩ := Led.freezeAt (pre := []) F4
            clear F4
            repeat walk_at "mq"
            refine ⟨hgB.trans (hgC.trans F5.sub), low_spec F5 (GA.mono (hgB.trans hgC)) R' (Heap.PlainList.isList hqZ) hJ2 (by rw [List.length_map]; omega) (by rw [List.length_map]; omega) fun ms k t sD hm1 hm2 hm3 F6 => ?_⟩
            refine ⟨gC, mc, fun _ => some (.int (0 + (j : Int) * 1) tj), hgB.trans hgC, ?_, F6⟩
            rw [List.range_succ]
            refine hJm.snoc ⟨k, t, ms, rfl, hm1, hm2, ?_⟩
            rw [List.length_map] at hm3
            exact hm3
        case done8 =>
          intro a8 g8 ys8 q84 hg8 hJ8 E84
          clear E83
          have G8 := G7.mono hg8
          obtain ⟨h8', hh8, E85, hq8⟩ := Led.freezeAt (pre := [_]) E84
          clear E84
          simp only [List.cons_append, List.nil_append] at E85
          have hg7x : Sub g6 h8' := hg7.trans (hg8.trans hh8)
          have Gx := G6.mono hg7x
          refine x_comp V (cl := [("row", L + 1)]) rfl rfl (by decide) (by intro _; rfl) rfl rfl rfl ?_
          repeat walk_at "mq"
          (rename Led _ _ _ _ => E91)
          refine call_rng1 E91 fun r9 q91 E92 => ?_
          refine it_range' (n := 3) E92 (by decide +kernel) (by decide +kernel) fun I9 q92 E93 => ?_
          clear E91 E92
          refine comp_use (K := fun s' => wpAny (model prog w) A' (execs _ env) _ _ s') V (iter_range R'.handled 0 1 3) (fun q g ys n => All2 (MedAt rcs (rcs.length / 2)) ys (List.range q)) (fun _ _ _ _ _ _ q => q) E93
            .nil rfl (by decide) (by decide) (fun q g' ys n' hq hJ => by rw [hJ.length, List.length_range]; exact Nat.le_refl _) (by intro _; rfl) rfl ?done9 ?turn9
          case turn9 =>
            rintro cenv C j v gA ys mc cm tl3 q93 VC hj ⟨tj, rfl⟩ hgA hJm DC
            clear E93
            replace VC : EnvIs cenv C [(".0", .local), ("j", .cell), ("median_high", .globalImplicit), ("row", .cell)] [("j", C + 1), ("row", L + 1)] := VC
            replace DC : Led ι gA q93 ((C, Ob.ns mc) :: (C + 1, Ob.cell (cm "j")) :: _ :: (L + 1, Ob.cell (some (.ref rr))) :: (tl ++ tl3)) := DC
            have GA := Gx.mono hgA
            have hrvA : gA.IsList rr rv.toArray := hrv1.at fun o e => (hg7x.trans hgA) _ _ e
            have hcolA : All2 (ColAt gA) rv rcs := hrv2.mono fun _ _ q => q.mono (hg7x.trans hgA)
            refine a_name ?_
            walk_at "mq"
            refine ts_nil (if_t rfl ?_)
            repeat walk_at "mq"
            refine cw_fn GA.high rfl ?_
            repeat walk_at "mq"
            refine e_comp VC (cl := [("j", C + 1)]) rfl rfl (by decide) (by intro _; rfl) ?_
            repeat walk_at "mq"
            (rename Led _ _ _ _ => F1)
            refine it_list F1 hrvA fun IB sB F2 => ?_
            clear F1
            refine comp_run VC (iter_list R'.handled hrvA) (fun i g ys n => IntsAre ys ((rcs.map (cmp3 j)).take i)) (fun _ _ _ _ _ _ q => q) F2 .nil rfl (by decide) (by rw [hrvl]; exact Nat.le_trans ok5 (by decide)) (fun i g' ys n' hi hJ => by rw [hJ.length, List.length_take]; exact Nat.min_le_left _ _) (by intro _; rfl) ?doneI ?turnI
            case turnI =>
              intro cenv2 C2 q v2 gB ys2 mc2 cm2 tl4 sC VC2 hlt2 hP2 hgB hJ2 DC2
              clear F2
              replace VC2 : EnvIs cenv2 C2 [(".0", .local), ("colour", .local), ("j", .cell)] [("j", C + 1)] := VC2
              replace DC2 : Led ι gB sC ((C2, Ob.ns mc2) :: (C, Ob.ns mc) :: (C + 1, Ob.cell (some (.int (0 + (j : Int) * 1) tj))) :: _) := DC2
              obtain ⟨cc, hcc, hca⟩ := hcolA.get hP2
              obtain ⟨b, u1, u2, u3, rfl, hb⟩ := hca
              have hbB := hb.keeps hgB
              obtain ⟨uj, hcj⟩ : ∃ uj, [Value.int cc.1 u1, Value.int cc.2.1 u2, Value.int cc.2.2 u3][j]? = some (.int (cmp3 j cc) uj) := by
                have : j = 0 ∨ j = 1 ∨ j = 2 := lt3 hj
                rcases this with rfl | rfl | rfl
                · exact ⟨_, rfl⟩
                · exact ⟨_, rfl⟩
                · exact ⟨_, rfl⟩
              have hsi : seqIndex? (0 + (j : Int) * 1) [Value.int cc.1 u1, Value.int cc.2.1 u2, Value.int cc.2.2 u3].length = some j := by
                have : j = 0 ∨ j = 1 ∨ j = 2 := lt3 hj
                rcases this with rfl | rfl | rfl <;> rfl
              refine a_name ?_
              walk_at "mq"
              refine ts_nil (if_t rfl ?_)
              repeat walk_at "mq"
              (rename Led _ _ _ _ => F3)
              refine s_tup (F3.tpG hbB) (by omega) (by omega) hsi hcj (by with_unfolding_all rfl) ?_
              refine ⟨gB, _, cm2, Sub.refl _, ?_, F3⟩
              have : (rcs.map (cmp3 j))[q]? = some (cmp3 j cc) := by rw [List.getElem?_map, hcc]; rfl
              rw [List.take_add_one, this]
              exact hJ2.append (.cons _ _ .nil)
            case doneI =>
              intro aZ gB ys2 sC hgB hJ2 F4
              clear F2
              rw [hrvl, List.take_of_length_le (by rw [List.length_map]; exact Nat.le_refl _)] at hJ2
              obtain ⟨gC, hgC, F5, hqZ⟩ := Led.freezeAt (pre := []) F4
              clear F4
              repeat walk_at "mq"
              refine ⟨hgB.trans (hgC.trans F5.sub), high_spec F5 (GA.mono (hgB.trans hgC)) R' (Heap.PlainList.isList hqZ) hJ2 (by rw [List.length_map]; omega) (by rw [List.length_map]; omega) fun ms k t sD hm1 hm2 hm3 F6 => ?_⟩
              refine ⟨gC, mc, fun _ => some (.int (0 + (j : Int) * 1) tj), hgB.trans hgC, ?_, F6⟩
              rw [List.range_succ]
              refine hJm.snoc ⟨k, t, ms, rfl, hm1, hm2, ?_⟩
              rw [List.length_map] at hm3
              exact hm3
          case done9 =>
            intro a9 g9 ys9 q94 hg9 hJ9 E94
            clear E93
            have G9 := Gx.mono hg9
            obtain ⟨h9', hh9, E95, hq9⟩ := Led.freezeAt (pre := [_]) E94
            clear E94
            simp only [List.cons_append, List.nil_append] at E95
            have hlow : g9.IsList a8 ys8.toArray := (Heap.PlainList.isList hq8).at fun o e => hg9 _ _ e
            have hg6x : Sub g6 h9' := hg7x.trans (hg9.trans hh9)
            have G9x := G6.mono hg6x
            have hlow' : h9'.IsList a8 ys8.toArray := hlow.at fun o e => hh9 _ _ e
            have hupp : h9'.IsList a9 ys9.toArray := Heap.PlainList.isList hq9
            have hhalf := ((((PTup.isTup hqh).keeps hg8).keeps hh8).keeps hg9).keeps hh9
            have hY9 : h9'.IsList aY ws.toArray := hY.at fun o e => hg6x _ _ e
            have hlay9 : All2 (LayAt h9') ws (laysOf rcs lv) := hlay.mono fun _ _ q => q.mono hg6x
            refine x_for (by intro _; rfl) ?_
            repeat walk_at "mq"
            (rename Led _ _ _ _ => K1)
            refine s_tup (j := 0) (K1.tpG hhalf) (by decide) (by decide) rfl rfl (by with_unfolding_all rfl) ?_
            repeat walk_at "mq"
            (rename Led _ _ _ _ => K2)
            refine s_tup (j := 1) (K2.tpG hhalf) (by decide) (by decide) rfl rfl (by with_unfolding_all rfl) ?_
            repeat walk_at "mq"
            (rename Led _ _ _ _ => K3)
            obtain ⟨k1, hk1, K4, p1⟩ := Led.freezeAt (pre := [_]) K3
            obtain ⟨k2, hk2, K5, p2⟩ := Led.freezeAt (pre := [_]) K4
            obtain ⟨k3, hk3, K6, p3⟩ := Led.freezeAt (pre := [_]) K5
            clear K3 K4 K5
            simp only [List.cons_append, List.nil_append] at K6
            have hpair := ((PTup.isTup p1).keeps hk2).keeps hk3
            have hpu := (PTup.isTup p2).keeps hk3
            have hpl := PTup.isTup p3
            have hkk : Sub h9' k3 := hk1.trans (hk2.trans hk3)
            refine it_tup K6 hpair fun I7 sK7 K7 => ?_
            clear K6
            refine for_iterT (iter_tup R'.handled hpair) (f₀ := [_, _]) (l := tl) (fun i g f => ∃ (m : Str → Option Value), f = [(L, Ob.ns m), (L + 1, .cell (some (.ref rr)))] ∧ m "top" = some (.int ((2 : Int) ^ p) tT) ∧ m "layers" = some (.ref aY)) K7
              ⟨_, rfl, by walk_at "mq look", by walk_at "mq look"⟩ (fun i v s' g' l' Q D h => go_tup D h) ?turnZ ?doneZ
            case doneZ =>
              rintro k4 f sK8 hk4 ⟨m4, rfl, hm1, hm2⟩ K8
              clear K7
              repeat walk_at "mq"
              exact ⟨rfl, k4, _, (hg6.trans (hg6x.trans (hkk.trans hk4))), ⟨_, _, rfl, hm1⟩, K8⟩
            case turnZ =>
              rintro i v k4 f tl5 sK8 hi2 hPz hk4 ⟨m4, rfl, hm1, hm2⟩ K8
              clear K7
              replace K8 : Led ι k4 sK8 ((L, Ob.ns m4) :: (L + 1, .cell (some (.ref rr))) :: tl5) := K8
              obtain ⟨b, aM, ysM, idx, lst, tls, rfl, hbt, hM, hmed, hlst, hidx⟩ : ∃ (b aM : Addr) (ysM : List Value) (idx : Nat) (lst : Int) (tls : Tok), v = .ref b ∧ IsTup k4 b [.ref aM, .int lst tls].toArray ∧ k4.IsList aM ysM.toArray ∧ All2 (MedAt rcs idx) ysM (List.range 3) ∧ lst = ((rcs.length - idx : Nat) : Int) ∧ idx < rcs.length := by
                have : i = 0 ∨ i = 1 := lt2 hi2
                rcases this with rfl | rfl
                · refine ⟨_, a8, ys8, (rcs.length - 1) / 2, _, _, (Option.some.inj hPz).symm, hpl.keeps hk4, hlow'.at fun o e => hk4 _ _ (hkk _ _ e), hJ8, ?_, by omega⟩
                  rw [Int.fdiv_eq_ediv_of_nonneg _ (by decide), hrvl]; exact half_lo ok1
                · refine ⟨_, a9, ys9, rcs.length / 2, _, _, (Option.some.inj hPz).symm, hpu.keeps hk4, hupp.at fun o e => hk4 _ _ (hkk _ _ e), hJ9, ?_, by omega⟩
                  rw [Int.fdiv_eq_ediv_of_nonneg _ (by decide), hrvl]; exact half_hi _
              have Gk := G9x.mono (hkk.trans hk4)
              refine a_tupT R'.handled K8 (K8.tpG hbt) rfl rfl fun sK9 K9 => ?_
              clear K8
              refine ao_cons (a_name ?_)
              repeat walk_at "mq"
              refine ao_cons (a_name ?_)
              repeat walk_at "mq"
              refine ao_nil ?_
              refine x_asgTup rfl rfl ?_
              repeat walk_at "mq"
              refine cw_fn Gk.counted rfl ?_
              repeat walk_at "mq"
              (rename Led _ _ _ _ => K10)
              have hk9 : Sub h9' k4 := hkk.trans hk4
              have hl3 : ∀ y ∈ laysOf rcs lv, y.2.length = 3 := laysOf_three rcs lv
              refine ⟨K10.sub, counted_spec K10 Gk R' (hY9.at fun o e => hk9 _ _ e) (hlay9.mono fun _ _ q => q.mono hk9) hl3 fun rC k5 sK11 hk5 hcnt K11 => ?_⟩
              clear K10
              obtain ⟨bC, u1, u2, zsC, hc1, hc2, hc3⟩ := hcnt
              have Gk5 := Gk.mono hk5
              have hM5 : k5.IsList aM ysM.toArray := hM.at fun o e => hk5 _ _ e
              refine a_tupT R'.handled K11 (K11.tpG hc1) rfl rfl fun sK12 K12 => ?_
              clear K11
              refine ao_cons (a_name ?_)
              repeat walk_at "mq"
              refine ao_cons (a_name ?_)
              repeat walk_at "mq"
              refine ao_cons (a_name ?_)
              repeat walk_at "mq"
              refine ao_nil ?_
              repeat walk_at "mq"
              refine isTrue_not (isTrue_plain ?_)
              repeat walk_at "mq"
              refine cw_fn Gk5.told rfl ?_
              repeat walk_at "mq"
              (rename Led _ _ _ _ => K13)
              have hmed' : All2 (MedAt rcs idx) ysM [0, 1, 2] := hmed
              cases hmed' with
              | cons e0 e1 =>
              cases e1 with
              | cons e1 e2 =>
              cases e2 with
              | cons e2 e3 =>
              cases e3
              obtain ⟨R, tR, ms0, rfl, a0, b0, c0⟩ := e0
              obtain ⟨G, tG, ms1, rfl, a1, b1, c1⟩ := e1
              obtain ⟨B, tB, ms2, rfl, a2, b2, c2⟩ := e2
              have bd : ∀ {ms : List Int} {j : Nat} {k : Int}, ms.Perm (rcs.map (cmp3 j)) → ms[idx]? = some k → 0 ≤ k ∧ k ≤ (2 : Int) ^ p := by
                intro ms j k hp hk
                obtain ⟨cc, hcc, rfl⟩ := List.mem_map.mp (hp.mem_iff.mp (List.mem_of_getElem? hk))
                exact good_cmp (okg cc hcc) j
              obtain ⟨f1, f2, f3, f4⟩ := counted_pure hlev (median_mem hlev a0 c0) (median_mem hlev a1 c1) (median_mem hlev a2 c2) (median_cnt a0 b0 c0 hlst) (median_cnt a1 b1 c1 hlst) (median_cnt a2 b2 c2 hlst) _ rfl
              refine ⟨K13.sub, told_spec K13 Gk5 R' W hM5 (.cons _ _ (.cons _ _ (.cons _ _ .nil))) hc2 hc3 (bd a0 c0) (bd a1 c1) (bd a2 c2) f1 f2 f3 f4 fun k6 sK14 hk6 K14 => ?_⟩
              clear K13
              repeat walk_at "mq"
              refine if_f rfl ?_
              repeat walk_at "mq"
              exact ⟨rfl, k6, _, hk5.trans hk6, ⟨_, rfl, by walk_at "mq look", by walk_at "mq look"⟩, K14⟩
end
/-- the end of the law: True, all that stood stands, nothing of the outside has turned -/
theorem end_true {c : ClaimW} {cl : Str → Option Addr} {mean : ExcName → Option Value} {args : List WData} {s₁ s' : Shared} {g : Heap} {l : List (Addr × Ob)} (hs : Sub s₁.heap g) (D : Led s₁ g s' l) (hg : s₁.gens = #[])
    (hr : ∀ cls, c.raises args cls = false) (hp : c.post args (.bool true) args = true) : GoodWG c cl mean args s₁ (.ok (.ret (.bool true))) s' :=
  ⟨.inl ⟨_, _, [], rfl, hr, ReadsW.bool true, hp, fun _ => ⟨List.nodup_nil, fun _ hm => (nomatch hm)⟩⟩, .of_keep fun _ _ e => D.sub _ _ (hs _ _ e), D.rest.2.2, .of_eq (D.rest.1.trans hg)⟩
theorem led_start {s : Shared} (ht : 0 < s.toks) : Led s s.heap s [] :=
  ⟨⟨rfl, rfl, rfl⟩, Sub.refl _, fun _ h => (nomatch h), fun _ h => (nomatch h), List.nodup_nil, ht, Nat.le_refl _⟩
theorem room_caller : Room callerA (0 + 5) := ⟨rfl, by decide +kernel, by decide +kernel⟩
end Mine
end

open PySem PySem.W PySem.Calls PyProof.Rows PySem.W.X PySem.W.ZRun
set_option maxRecDepth 100000 in
set_option maxHeartbeats 8000000 in
theorem PySem.Challenge.cw_mq0194_01_holds : PySem.Challenge.rw_mq0194_01.Holds := by
  w_on
  o_law
  z_head
  (case hw => w_witness2)
  k_fill
  intro w s₀ s₁ mg mb G y fa o pm cd doc dV kV ho hd hcd hD hmg hg args vals as L hpre hlay hrd hwl hlo
  z_open y L KX ZH ZN ZT
  refine Ground.open G ?_
  intro T B D TE TW
  wrow_args hpre hlay hrd hwl hlo
  obtain ⟨hat, hsz⟩ := script_at L
  have htk := script_toks L ZT
  rw [ZN] at hat hsz
  subst hat
  x_fa T KX hmg
  all_lens
  clear hd hcd hD hmg
  have hstat : s₁.heap.Ns cStatics (fun _ => none) := ⟨_, #[], _, KX 2 _ rfl, rfl, fun _ he => by simp at he, fun _ => rfl⟩
  have f1 : Mine.FnAt s₁.heap 21 1 := ⟨_, _, KX 21 _ rfl, rfl, rfl, rfl, rfl, rfl, rfl, rfl, rfl, rfl, ⟨_, _, _, _, rfl, KX _ _ rfl, rfl, rfl⟩⟩
  have f2 : Mine.FnAt s₁.heap 28 2 := ⟨_, _, KX 28 _ rfl, rfl, rfl, rfl, rfl, rfl, rfl, rfl, rfl, rfl, ⟨_, _, _, _, rfl, KX _ _ rfl, rfl, rfl⟩⟩
  have f3 : Mine.FnAt s₁.heap 35 3 := ⟨_, _, KX 35 _ rfl, rfl, rfl, rfl, rfl, rfl, rfl, rfl, rfl, rfl, ⟨_, _, _, _, rfl, KX _ _ rfl, rfl, rfl⟩⟩
  have f4 : Mine.FnAt s₁.heap 55 6 := ⟨_, _, KX 55 _ rfl, rfl, rfl, rfl, rfl, rfl, rfl, rfl, rfl, rfl, ⟨_, _, _, _, rfl, KX _ _ rfl, rfl, rfl⟩⟩
  have f5 : Mine.FnAt s₁.heap 62 7 := ⟨_, _, KX 62 _ rfl, rfl, rfl, rfl, rfl, rfl, rfl, rfl, rfl, rfl, ⟨_, _, _, _, rfl, KX _ _ rfl, rfl, rfl⟩⟩
  have f6 : Mine.FnAt s₁.heap 67 9 := ⟨_, _, KX 67 _ rfl, rfl, rfl, rfl, rfl, rfl, rfl, rfl, rfl, rfl, ⟨_, _, _, _, rfl, KX _ _ rfl, rfl, rfl⟩⟩
  have f7 : Mine.FnAt s₁.heap 72 10 := ⟨_, _, KX 72 _ rfl, rfl, rfl, rfl, rfl, rfl, rfl, rfl, rfl, rfl, ⟨_, _, _, _, rfl, KX _ _ rfl, rfl, rfl⟩⟩
  have f8 : Mine.FnAt s₁.heap 77 11 := ⟨_, _, KX 77 _ rfl, rfl, rfl, rfl, rfl, rfl, rfl, rfl, rfl, rfl, ⟨_, _, _, _, rfl, KX _ _ rfl, rfl, rfl⟩⟩
  have f9 : Mine.FnAt s₁.heap 82 12 := ⟨_, _, KX 82 _ rfl, rfl, rfl, rfl, rfl, rfl, rfl, rfl, rfl, rfl, ⟨_, _, _, _, rfl, KX _ _ rfl, rfl, rfl⟩⟩
  have f10 : Mine.FnAt s₁.heap 87 13 := ⟨_, _, KX 87 _ rfl, rfl, rfl, rfl, rfl, rfl, rfl, rfl, rfl, rfl, ⟨_, _, _, _, rfl, KX _ _ rfl, rfl, rfl⟩⟩
  have hgl : ∀ p ∈ Mine.globTab, mg p.1 = some p.2 := by
    intro p hp
    simp only [Mine.globTab, List.mem_cons, List.not_mem_nil, or_false] at hp
    rcases hp with rfl | rfl | rfl | rfl | rfl | rfl | rfl | rfl | rfl <;> exact mg_of KX T.g rfl
  have hbl : ∀ p ∈ Mine.bltTab, mg p.1 = none ∧ mb p.1 = some p.2 := by
    intro p hp
    simp only [Mine.bltTab, List.mem_cons, List.not_mem_nil, or_false] at hp
    rcases hp with rfl | rfl | rfl | rfl | rfl | rfl | rfl | rfl | rfl <;> exact ⟨ns_none_of KX T.g rfl, (T.builtins _ (by decide)).trans rfl⟩
  have hG : Mine.Grd s₁.heap := ⟨hstat, ⟨mg, mb, T.g, T.b, hgl, hbl⟩, f1, f2, f3, f4, f5, f6, f7, f8, f9⟩
  rename IntsAre _ _ => hI
  rename s₁.heap.IsList 88 _ => hL
  refine Mine.law_spec (Mine.led_start (Nat.lt_of_lt_of_le (by decide) htk)) hG f10 Mine.room_caller hL hI (by omega) fun g' s' hs D' => ?_
  refine Mine.end_true hs D' hg (fun _ => rfl) ?_
  first | kernel_rfl | wrow_post | trace_state
