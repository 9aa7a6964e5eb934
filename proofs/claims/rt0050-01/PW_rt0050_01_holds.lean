import PyProof.Rows.All
import Wide.All
import OpenK.AllK
import Wide.FinOn
import PySem.Challenge.RW_rt0050_01
set_option Elab.async false
set_option linter.all false
set_option maxRecDepth 100000
set_option maxHeartbeats 4000000
/-! ### TLCore -/
section
open PySem PyProof.Rows
namespace TL

/-- pure data -/
inductive Tr where
  | none | bool (b : Bool) | int (i : Int) | str (s : Str) | bytes (b : Array UInt8) | type (n : String)
  | list (l : List Tr) | tuple (l : List Tr) | dict (ks : List Int) (l : List Tr)

noncomputable abbrev sobj (c : String) (vs : List Value) (n : Nat) : Obj := { cls := .type c, data := .seq vs.toArray n }
noncomputable abbrev dobj (es : List DictEntry) (n : Nat) : Obj := { cls := .type "dict", data := .dict es.toArray n }

noncomputable def EntOf (k : Int) (v : Value) (e : DictEntry) : Prop := ∃ t, e = ⟨hashInt k, .int k t, v⟩
inductive EntsOf : List Int → List Value → List DictEntry → Prop
  | nil : EntsOf [] [] []
  | cons {k : Int} {v : Value} {e : DictEntry} {ks : List Int} {vs : List Value} {es : List DictEntry} : EntOf k v e → EntsOf ks vs es → EntsOf (k :: ks) (v :: vs) (e :: es)

mutual
noncomputable def RT (h : Heap) (N : Addr → Prop) : Tr → Value → Prop
  | .none, v => v = .none
  | .bool b, v => v = .bool b
  | .int i, v => ∃ t, v = .int i t
  | .str s, v => ∃ t, v = .str s t
  | .bytes s, v => ∃ t, v = .bytes s t
  | .type n, v => v = .type n
  | .list ts, v => ∃ a vs n, v = .ref a ∧ ¬ N a ∧ h.get? a = some (sobj "list" vs n) ∧ RTs h N ts vs
  | .tuple ts, v => ∃ a vs n, v = .ref a ∧ ¬ N a ∧ h.get? a = some (sobj "tuple" vs n) ∧ RTs h N ts vs
  | .dict ks ts, v => ∃ a es vs n, v = .ref a ∧ ¬ N a ∧ h.get? a = some (dobj es n) ∧ ks.Nodup ∧ EntsOf ks vs es ∧ RTs h N ts vs
noncomputable def RTs (h : Heap) (N : Addr → Prop) : List Tr → List Value → Prop
  | [], vs => vs = []
  | t :: ts, vs => ∃ v r, vs = v :: r ∧ RT h N t v ∧ RTs h N ts r
end

/-- neither a frame of the interpreter's own nor an iterator -/
noncomputable def Dt (o : Obj) : Prop := ∀ vs, o.data ≠ .fields vs

mutual
theorem RT.impD {h h' : Heap} {N N' : Addr → Prop} (H : ∀ b o, Dt o → ¬ N b → h.get? b = some o → h'.get? b = some o ∧ ¬ N' b) :
    ∀ (t : Tr) (v : Value), RT h N t v → RT h' N' t v
  | .none, _, x => x
  | .bool _, _, x => x
  | .int _, _, x => x
  | .str _, _, x => x
  | .bytes _, _, x => x
  | .type _, _, x => x
  | .list ts, _, ⟨a, vs, n, e, hn, hg, r⟩ => ⟨a, vs, n, e, (H a _ (fun _ z => by cases z) hn hg).2, (H a _ (fun _ z => by cases z) hn hg).1, RTs.impD H ts vs r⟩
  | .tuple ts, _, ⟨a, vs, n, e, hn, hg, r⟩ => ⟨a, vs, n, e, (H a _ (fun _ z => by cases z) hn hg).2, (H a _ (fun _ z => by cases z) hn hg).1, RTs.impD H ts vs r⟩
  | .dict ks ts, _, ⟨a, es, vs, n, e, hn, hg, hd, he, r⟩ => ⟨a, es, vs, n, e, (H a _ (fun _ z => by cases z) hn hg).2, (H a _ (fun _ z => by cases z) hn hg).1, hd, he, RTs.impD H ts vs r⟩
theorem RTs.impD {h h' : Heap} {N N' : Addr → Prop} (H : ∀ b o, Dt o → ¬ N b → h.get? b = some o → h'.get? b = some o ∧ ¬ N' b) :
    ∀ (ts : List Tr) (vs : List Value), RTs h N ts vs → RTs h' N' ts vs
  | [], _, x => x
  | t :: ts, _, ⟨v, r, e, x, y⟩ => ⟨v, r, e, RT.impD H t v x, RTs.impD H ts r y⟩
end
theorem RT.imp {h h' : Heap} {N N' : Addr → Prop} (H : ∀ b o, ¬ N b → h.get? b = some o → h'.get? b = some o ∧ ¬ N' b) (t : Tr) (v : Value) (x : RT h N t v) : RT h' N' t v := RT.impD (fun b o _ => H b o) t v x
theorem RTs.imp {h h' : Heap} {N N' : Addr → Prop} (H : ∀ b o, ¬ N b → h.get? b = some o → h'.get? b = some o ∧ ¬ N' b) (t : List Tr) (v : List Value) (x : RTs h N t v) : RTs h' N' t v := RTs.impD (fun b o _ => H b o) t v x

theorem RT.keep {h h' : Heap} {N : Addr → Prop} (H : ∀ b o, h.get? b = some o → h'.get? b = some o) {t : Tr} {v : Value} (x : RT h N t v) : RT h' N t v :=
  RT.imp (fun b o hn e => ⟨H b o e, hn⟩) t v x
theorem RTs.keep {h h' : Heap} {N : Addr → Prop} (H : ∀ b o, h.get? b = some o → h'.get? b = some o) {t : List Tr} {v : List Value} (x : RTs h N t v) : RTs h' N t v :=
  RTs.imp (fun b o hn e => ⟨H b o e, hn⟩) t v x
theorem RT.weak {h : Heap} {N N' : Addr → Prop} (H : ∀ b, N' b → N b) {t : Tr} {v : Value} (x : RT h N t v) : RT h N' t v :=
  RT.imp (fun b _ hn e => ⟨e, fun y => hn (H b y)⟩) t v x
theorem RTs.weak {h : Heap} {N N' : Addr → Prop} (H : ∀ b, N' b → N b) {t : List Tr} {v : List Value} (x : RTs h N t v) : RTs h N' t v :=
  RTs.imp (fun b _ hn e => ⟨e, fun y => hn (H b y)⟩) t v x

theorem RTs.length {h : Heap} {N : Addr → Prop} : ∀ {ts : List Tr} {vs : List Value}, RTs h N ts vs → vs.length = ts.length
  | [], _, x => by simp [RTs] at x; simp [x]
  | t :: ts, _, x => by
    obtain ⟨v, r, rfl, _, y⟩ := x
    simp [y.length]
theorem RTs.get {h : Heap} {N : Addr → Prop} : ∀ {ts : List Tr} {vs : List Value}, RTs h N ts vs → ∀ {i : Nat} {t : Tr}, ts[i]? = some t → ∃ v, vs[i]? = some v ∧ RT h N t v
  | [], _, _, i, t, e => by simp at e
  | t :: ts, _, ⟨v, r, rfl, x, y⟩, 0, t', e => by simp at e; subst e; exact ⟨v, by simp, x⟩
  | t :: ts, _, ⟨v, r, rfl, x, y⟩, i + 1, t', e => by simp at e; obtain ⟨v', e', q⟩ := y.get e; exact ⟨v', by simpa using e', q⟩
theorem RTs.append {h : Heap} {N : Addr → Prop} : ∀ {ts us : List Tr} {vs ws : List Value}, RTs h N ts vs → RTs h N us ws → RTs h N (ts ++ us) (vs ++ ws)
  | [], us, vs, ws, x, y => by simp [RTs] at x; subst x; simpa using y
  | t :: ts, us, _, ws, ⟨v, r, rfl, x, z⟩, y => ⟨v, r ++ ws, by simp, x, RTs.append z y⟩
theorem RTs.snoc {h : Heap} {N : Addr → Prop} {ts : List Tr} {t : Tr} {vs : List Value} {v : Value} (x : RTs h N ts vs) (y : RT h N t v) : RTs h N (ts ++ [t]) (vs ++ [v]) :=
  x.append ⟨v, [], rfl, y, rfl⟩
theorem RTs.set {h : Heap} {N : Addr → Prop} : ∀ {ts : List Tr} {vs : List Value} (n : Nat) {t : Tr} {v : Value}, RTs h N ts vs → RT h N t v → RTs h N (ts.set n t) (vs.set n v)
  | [], vs, n, t, v, x, y => by simp [RTs] at x; subst x; simp [RTs]
  | u :: ts, _, 0, t, v, ⟨w, r, rfl, x, z⟩, y => ⟨v, r, by simp, y, z⟩
  | u :: ts, _, n + 1, t, v, ⟨w, r, rfl, x, z⟩, y => ⟨w, r.set n v, by simp, x, z.set n y⟩

end TL
end
/-! ### TLJ -/
section
open PySem PyProof.Rows
namespace TL

structure Cx where
  prog : Program
  w : World
  A : Around
  env : Env
  s0 : Shared
  mu : Addr → Prop

inductive LV where | tree (t : Tr) | own (t : Tr)
noncomputable abbrev Sg := List (Str × LV)

noncomputable def Cx.ownCell (c : Cx) (n : Str) (a : Addr) : Prop := c.env.cells.lookup n = some a ∧ c.s0.heap.get? a = none

noncomputable def OR (h : Heap) (N : Addr → Prop) (a : Addr) : Tr → Prop
  | .list ts => ∃ vs n, h.get? a = some (sobj "list" vs n) ∧ RTs h N ts vs
  | .dict ks ts => ∃ es vs n, h.get? a = some (dobj es n) ∧ ks.Nodup ∧ EntsOf ks vs es ∧ RTs h N ts vs
  | _ => False

theorem OR.impD {h h' : Heap} {N N' : Addr → Prop} {a : Addr} (ha : ∀ o, Dt o → h.get? a = some o → h'.get? a = some o) (H : ∀ b o, Dt o → ¬ N b → h.get? b = some o → h'.get? b = some o ∧ ¬ N' b) :
    ∀ {t : Tr}, OR h N a t → OR h' N' a t
  | .list ts, ⟨vs, n, e, r⟩ => ⟨vs, n, ha _ (fun _ z => by cases z) e, RTs.impD H _ _ r⟩
  | .dict ks ts, ⟨es, vs, n, e, d, q, r⟩ => ⟨es, vs, n, ha _ (fun _ z => by cases z) e, d, q, RTs.impD H _ _ r⟩

theorem OR.imp {h h' : Heap} {N N' : Addr → Prop} {a : Addr} (ha : ∀ o, h.get? a = some o → h'.get? a = some o) (H : ∀ b o, ¬ N b → h.get? b = some o → h'.get? b = some o ∧ ¬ N' b) {t : Tr} (x : OR h N a t) : OR h' N' a t :=
  x.impD (fun o _ => ha o) fun b o _ => H b o

noncomputable def LR (h : Heap) (N : Addr → Prop) (a : Addr) (lv : LV) (v : Value) : Prop := match lv with
  | .tree t => RT h N t v
  | .own t => v = .ref a ∧ OR h N a t

noncomputable def Holds (c : Cx) (h : Heap) (m : Str → Option Value) (x : Str) (v : Value) : Prop :=
  (c.env.kindOf x = some .local ∧ m x = some v) ∨
  ((c.env.kindOf x = some .cell ∨ c.env.kindOf x = some .free) ∧ ∃ a, c.env.cells.lookup x = some a ∧ h.IsCell a (some v))

noncomputable def Mut (c : Cx) (σ : Sg) (α : Str → Addr) (b : Addr) : Prop :=
  c.mu b ∨ b = c.env.locals ∨ (∃ n, c.ownCell n b) ∨ ∃ x t, σ.lookup x = some (.own t) ∧ α x = b

structure Bd (c : Cx) (σ : Sg) (m : Str → Option Value) (α : Str → Addr) (h : Heap) : Prop where
  ns : h.Ns c.env.locals m
  above : c.s0.heap.get? c.env.locals = none
  keep : ∀ b o, c.s0.heap.get? b = some o → h.get? b = some o
  muAt : ∀ b, c.mu b → ∃ o, h.get? b = some o
  cells : ∀ n a, c.ownCell n a → a ≠ c.env.locals ∧ ∃ v, h.IsCell a v
  cinj : ∀ n n' a, c.ownCell n a → c.ownCell n' a → n = n'
  val : ∀ x lv, σ.lookup x = some lv → ∃ v, Holds c h m x v ∧ LR h (Mut c σ α) (α x) lv v
  own : ∀ x t, σ.lookup x = some (.own t) → c.s0.heap.get? (α x) = none ∧ ¬ c.mu (α x) ∧ α x ≠ c.env.locals ∧ (∀ n a, c.ownCell n a → α x ≠ a) ∧
    ∀ y t', σ.lookup y = some (.own t') → α x = α y → x = y

section
variable {c : Cx} {σ : Sg} {m : Str → Option Value} {α : Str → Addr} {h h' : Heap}

theorem Holds.imp {x : Str} {v : Value} (H : ∀ a v, c.env.cells.lookup x = some a → h.IsCell a v → h'.IsCell a v) (X : Holds c h m x v) : Holds c h' m x v :=
  Or.imp id (fun ⟨k, a, e, q⟩ => ⟨k, a, e, H a _ e q⟩) X

theorem LR.impD {h h' : Heap} {N N' : Addr → Prop} {a : Addr} {lv : LV} {v : Value} (ha : ∀ t, lv = .own t → ∀ o, Dt o → h.get? a = some o → h'.get? a = some o)
    (H : ∀ b o, Dt o → ¬ N b → h.get? b = some o → h'.get? b = some o ∧ ¬ N' b) (x : LR h N a lv v) : LR h' N' a lv v := by
  cases lv with
  | tree t => exact RT.impD H t v x
  | own t => exact ⟨x.1, OR.impD (ha t rfl) H x.2⟩

theorem LR.imp {h h' : Heap} {N N' : Addr → Prop} {a : Addr} {lv : LV} {v : Value} (ha : ∀ t, lv = .own t → ∀ o, h.get? a = some o → h'.get? a = some o)
    (H : ∀ b o, ¬ N b → h.get? b = some o → h'.get? b = some o ∧ ¬ N' b) (x : LR h N a lv v) : LR h' N' a lv v := x.impD (fun t e o _ => ha t e o) fun b o _ => H b o
/-- an iterator steps on -/
theorem Bd.keepD (B : Bd c σ m α h) (H : ∀ b o, Dt o → h.get? b = some o → h'.get? b = some o) (H0 : ∀ b o, c.s0.heap.get? b = some o → h'.get? b = some o) (Hmu : ∀ b, c.mu b → ∃ o, h'.get? b = some o) : Bd c σ m α h' where
  ns := let ⟨o, es, ep, e, hd, r⟩ := B.ns; ⟨o, es, ep, H _ _ (fun vs z => by rw [hd] at z; cases z) e, hd, r⟩
  above := B.above
  keep := H0
  muAt := Hmu
  cells := fun n a e => ⟨(B.cells n a e).1, let ⟨v, o, q, hd⟩ := (B.cells n a e).2; ⟨v, o, H _ _ (fun vs z => by rw [hd] at z; cases z) q, hd⟩⟩
  cinj := B.cinj
  val := fun x lv e => let ⟨v, X, q⟩ := B.val x lv e
    ⟨v, X.imp fun _ _ _ ⟨o, z, hd⟩ => ⟨o, H _ _ (fun vs z => by rw [hd] at z; cases z) z, hd⟩, q.impD (fun _ _ o d e => H _ _ d e) fun b o d hn e => ⟨H b o d e, hn⟩⟩
  own := B.own
theorem Bd.keeps (B : Bd c σ m α h) (H : ∀ b o, h.get? b = some o → h'.get? b = some o) : Bd c σ m α h' :=
  B.keepD (fun b o _ => H b o) (fun b o e => H b o (B.keep b o e)) fun b M => let ⟨o, e⟩ := B.muAt b M; ⟨o, H _ _ e⟩

theorem Bd.mutAt (B : Bd c σ m α h) {b : Addr} (M : Mut c σ α b) : ∃ o, h.get? b = some o := by
  rcases M with M | rfl | ⟨n, M⟩ | ⟨x, t, e, rfl⟩
  · exact B.muAt b M
  · obtain ⟨o, _, _, e, _⟩ := B.ns; exact ⟨o, e⟩
  · obtain ⟨_, v, o, q, _⟩ := B.cells n b M; exact ⟨o, q⟩
  · obtain ⟨v, _, q⟩ := B.val x _ e
    obtain ⟨_, q⟩ := q
    cases t with
    | list ts => obtain ⟨vs, n, e, _⟩ := q; exact ⟨_, e⟩
    | dict ks ts => obtain ⟨es, vs, n, e, _⟩ := q; exact ⟨_, e⟩
    | _ => exact q.elim
theorem Bd.mutNe (B : Bd c σ m α h) {a b : Addr} (M : Mut c σ α b) (ha : h.get? a = none) : b ≠ a := by
  rintro rfl
  obtain ⟨o, e⟩ := B.mutAt M
  rw [ha] at e; cases e
theorem someNe {h : Heap} {a b : Addr} {o : Obj} (e : h.get? b = some o) (ha : h.get? a = none) : b ≠ a := by
  rintro rfl
  rw [ha] at e; cases e

theorem Bd.sub {σ' : Sg} (B : Bd c σ m α h) (H : ∀ x lv, σ'.lookup x = some lv → σ.lookup x = some lv) : Bd c σ' m α h where
  ns := B.ns
  above := B.above
  keep := B.keep
  muAt := B.muAt
  cells := B.cells
  cinj := B.cinj
  val := fun x lv e => let ⟨v, X, q⟩ := B.val x lv (H _ _ e); ⟨v, X, q.imp (fun _ _ _ e => e) fun b o hn e => ⟨e, fun M => hn (by
    rcases M with M | M | M | ⟨x, t, e, M⟩
    · exact .inl M
    · exact .inr (.inl M)
    · exact .inr (.inr (.inl M))
    · exact .inr (.inr (.inr ⟨x, t, H _ _ e, M⟩)))⟩⟩
  own := fun x t e => let ⟨a, b, d, d', i⟩ := B.own x t (H _ _ e); ⟨a, b, d, d', fun y t' e' q => i y t' (H _ _ e') q⟩

theorem lookup_cons {x y : Str} {lv : LV} : ((x, lv) :: σ).lookup y = if y = x then some lv else σ.lookup y := by
  rw [List.lookup_cons]
  by_cases e : y = x
  · subst e; simp
  · have : (y == x) = false := by simpa using e
    rw [this]; simp [e]

theorem mut_cons_tree {x : Str} {t : Tr} {b : Addr} (M : Mut c ((x, .tree t) :: σ) α b) : Mut c σ α b := by
  rcases M with M | M | M | ⟨y, t', e, M⟩
  · exact .inl M
  · exact .inr (.inl M)
  · exact .inr (.inr (.inl M))
  · rw [lookup_cons] at e
    split at e
    · cases e
    · exact .inr (.inr (.inr ⟨y, t', e, M⟩))

/-- a cell that the names lead to never lies at the frame -/
theorem Bd.cellNe (B : Bd c σ m α h) {x : Str} {a : Addr} (e : c.env.cells.lookup x = some a) : a ≠ c.env.locals := by
  cases q : c.s0.heap.get? a with
  | none => exact (B.cells x a ⟨e, q⟩).1
  | some o => exact someNe q B.above

theorem RT.sameBut {h h' : Heap} {N : Addr → Prop} {a : Addr} (hs : Heap.SameBut a h h') (ha : N a) {t : Tr} {v : Value} (x : RT h N t v) : RT h' N t v :=
  RT.imp (fun b o hn e => ⟨(hs.2 b fun z => hn (z ▸ ha)).trans e, hn⟩) t v x
theorem RTs.sameBut {h h' : Heap} {N : Addr → Prop} {a : Addr} (hs : Heap.SameBut a h h') (ha : N a) {t : List Tr} {v : List Value} (x : RTs h N t v) : RTs h' N t v :=
  RTs.imp (fun b o hn e => ⟨(hs.2 b fun z => hn (z ▸ ha)).trans e, hn⟩) t v x

theorem Bd.muSame (B : Bd c σ m α h) {a : Addr} (hs : Heap.SameBut a h h') (ha : ∃ o, h'.get? a = some o) : ∀ b, c.mu b → ∃ o, h'.get? b = some o := fun b M => by
  by_cases q : b = a
  · exact q ▸ ha
  · obtain ⟨o, e⟩ := B.muAt b M; exact ⟨o, (hs.2 b q).trans e⟩
theorem nsAt {h : Heap} {a : Addr} {m : Str → Option Value} (n : h.Ns a m) : ∃ o, h.get? a = some o := let ⟨o, _, _, e, _⟩ := n; ⟨o, e⟩

theorem Bd.setLocal (B : Bd c σ m α h) {x : Str} {v : Value} {t : Tr} (hk : c.env.kindOf x = some .local) (hv : RT h (Mut c σ α) t v)
    (hn : h'.Ns c.env.locals (fun y => if y = x then some v else m y)) (hs : Heap.SameBut c.env.locals h h') :
    Bd c ((x, .tree t) :: σ) (fun y => if y = x then some v else m y) α h' := by
  have ML : Mut c σ α c.env.locals := .inr (.inl rfl)
  refine ⟨hn, B.above, fun b o e => (hs.2 b fun z => ?_).trans (B.keep b o e), B.muSame hs (nsAt hn), fun n a e => ⟨(B.cells n a e).1, let ⟨v, q⟩ := (B.cells n a e).2; ⟨v, q.sameBut hs (B.cells n a e).1⟩⟩, B.cinj, fun y lv e => ?_, fun y t' e => ?_⟩
  · exact someNe e B.above z
  · rw [lookup_cons] at e
    by_cases q : y = x
    · subst q
      rw [if_pos rfl] at e; cases e
      exact ⟨v, .inl ⟨hk, by simp⟩, RT.weak (fun b M => mut_cons_tree M) (hv.sameBut hs ML)⟩
    · rw [if_neg q] at e
      obtain ⟨w, X, r⟩ := B.val y lv e
      refine ⟨w, ?_, r.imp (fun t' z o e' => (hs.2 _ ?_).trans e') fun b o hn' e' => ⟨(hs.2 b fun z => hn' (z ▸ ML)).trans e', fun M => hn' (mut_cons_tree M)⟩⟩
      · rcases X with ⟨k, z⟩ | ⟨k, a, z, w'⟩
        · exact .inl ⟨k, by simpa [q] using z⟩
        · exact .inr ⟨k, a, z, w'.sameBut hs (B.cellNe z)⟩
      · subst z; exact (B.own y t' e).2.2.1
  · rw [lookup_cons] at e
    split at e
    · cases e
    · obtain ⟨a1, a1', a2, a3, a4⟩ := B.own y t' e
      refine ⟨a1, a1', a2, a3, fun z t'' e' => ?_⟩
      rw [lookup_cons] at e'
      split at e'
      · cases e'
      · exact a4 z t'' e'

theorem Bd.setCell (B : Bd c σ m α h) {x : Str} {v : Value} {t : Tr} {a : Addr} (hk : c.env.kindOf x = some .cell) (hc : c.ownCell x a) (hv : RT h (Mut c σ α) t v)
    (hn : h'.IsCell a (some v)) (hs : Heap.SameBut a h h') : Bd c ((x, .tree t) :: σ) m α h' := by
  have Ma : Mut c σ α a := .inr (.inr (.inl ⟨x, hc⟩))
  have hL := (B.cells x a hc).1
  refine ⟨B.ns.sameBut hs (Ne.symm hL), B.above, fun b o e => (hs.2 b fun z => ?_).trans (B.keep b o e), B.muSame hs (let ⟨o, e, _⟩ := hn; ⟨o, e⟩), fun n a' e => ⟨(B.cells n a' e).1, ?_⟩, B.cinj, fun y lv e => ?_, fun y t' e => ?_⟩
  · exact someNe e hc.2 z
  · by_cases q : a' = a
    · subst q; exact ⟨_, hn⟩
    · obtain ⟨v, z⟩ := (B.cells n a' e).2; exact ⟨v, z.sameBut hs q⟩
  · rw [lookup_cons] at e
    by_cases q : y = x
    · subst q
      rw [if_pos rfl] at e; cases e
      exact ⟨v, .inr ⟨.inl hk, a, hc.1, hn⟩, RT.weak (fun b M => mut_cons_tree M) (hv.sameBut hs Ma)⟩
    · rw [if_neg q] at e
      obtain ⟨w, X, r⟩ := B.val y lv e
      refine ⟨w, ?_, r.imp (fun t' z o e' => (hs.2 _ ?_).trans e') fun b o hn' e' => ⟨(hs.2 b fun z => hn' (z ▸ Ma)).trans e', fun M => hn' (mut_cons_tree M)⟩⟩
      · refine X.imp fun a' w z d => d.sameBut hs fun u => ?_
        subst u
        exact q (B.cinj y x a' ⟨z, hc.2⟩ hc)
      · subst z; exact (B.own y t' e).2.2.2.1 x a hc
  · rw [lookup_cons] at e
    split at e
    · cases e
    · obtain ⟨a1, a1', a2, a3, a4⟩ := B.own y t' e
      refine ⟨a1, a1', a2, a3, fun z t'' e' => ?_⟩
      rw [lookup_cons] at e'
      split at e'
      · cases e'
      · exact a4 z t'' e'

/-- a fresh object becomes a name's own -/
theorem Bd.setOwn {h₀ : Heap} (B₀ : Bd c σ m α h₀) (hk₀ : ∀ b o, h₀.get? b = some o → h.get? b = some o) {x : Str} {t : Tr} {a : Addr} (hk : c.env.kindOf x = some .local) (ha : h₀.get? a = none)
    (hv : OR h (fun b => Mut c σ α b ∨ b = a) a t) (hn : h'.Ns c.env.locals (fun y => if y = x then some (.ref a) else m y)) (hs : Heap.SameBut c.env.locals h h') :
    Bd c ((x, .own t) :: σ) (fun y => if y = x then some (.ref a) else m y) (fun y => if y = x then a else α y) h' := by
  have B := B₀.keeps hk₀
  have ML : Mut c σ α c.env.locals := .inr (.inl rfl)
  have haL : a ≠ c.env.locals := Ne.symm (B₀.mutNe ML ha)
  have hNa : ∀ b, Mut c σ α b → b ≠ a := fun b M => B₀.mutNe M ha
  -- the new set of what turns: the old and a
  have up : ∀ b, Mut c ((x, .own t) :: σ) (fun y => if y = x then a else α y) b → Mut c σ α b ∨ b = a := by
    intro b M
    rcases M with M | M | M | ⟨y, t', e, M⟩
    · exact .inl (.inl M)
    · exact .inl (.inr (.inl M))
    · exact .inl (.inr (.inr (.inl M)))
    · by_cases q : y = x
      · exact .inr (by simpa [q] using M.symm)
      · rw [lookup_cons, if_neg q] at e
        simp only [q, if_false] at M
        exact .inl (.inr (.inr (.inr ⟨y, t', e, M⟩)))
  have old : ∀ b o, ¬ Mut c σ α b → h₀.get? b = some o → h'.get? b = some o ∧ ¬ Mut c ((x, .own t) :: σ) (fun y => if y = x then a else α y) b := fun b o hn' e =>
    ⟨(hs.2 b fun z => hn' (z ▸ ML)).trans (hk₀ b o e), fun M => (up b M).elim hn' fun z => someNe e ha z⟩
  refine ⟨hn, B.above, fun b o e => (hs.2 b fun z => ?_).trans (B.keep b o e), B.muSame hs (nsAt hn), fun n a e => ⟨(B.cells n a e).1, let ⟨v, q⟩ := (B.cells n a e).2; ⟨v, q.sameBut hs (B.cells n a e).1⟩⟩, B.cinj, fun y lv e => ?_, fun y t' e => ?_⟩
  · exact someNe e B.above z
  · rw [lookup_cons] at e
    by_cases q : y = x
    · subst q
      rw [if_pos rfl] at e; cases e
      refine ⟨.ref a, .inl ⟨hk, by simp⟩, ?_⟩
      show _ ∧ OR _ _ (if y = y then a else α y) _
      rw [if_pos rfl]
      refine ⟨rfl, ?_⟩
      exact OR.imp (fun o e => (hs.2 _ haL).trans e) (fun b o hn' e => ⟨(hs.2 b fun z => hn' (.inl (z ▸ ML))).trans e, fun M => hn' (up b M)⟩) hv
    · rw [if_neg q] at e
      obtain ⟨w, X, r⟩ := B₀.val y lv e
      refine ⟨w, ?_, ?_⟩
      · rcases X with ⟨k, z⟩ | ⟨k, a, z, w'⟩
        · exact .inl ⟨k, by simpa [q] using z⟩
        · exact .inr ⟨k, a, z, (w'.keeps hk₀).sameBut hs (B.cellNe z)⟩
      · simp only [q, if_false]
        exact r.imp (fun t' z o e' => by subst z; exact (hs.2 _ (B.own y t' e).2.2.1).trans (hk₀ _ _ e')) old
  · rw [lookup_cons] at e
    by_cases q : y = x
    · subst q
      simp only [if_true]
      refine ⟨?_, fun M => hNa a (.inl M) rfl, haL, fun n a' e' z => ?_, fun z t'' e' w => ?_⟩
      · cases q : c.s0.heap.get? a with
        | none => rfl
        | some o => rw [B₀.keep _ _ q] at ha; cases ha
      · exact hNa a' (.inr (.inr (.inl ⟨n, e'⟩))) z.symm
      · by_cases qz : z = y
        · exact qz.symm
        · rw [lookup_cons, if_neg qz] at e'
          simp only [qz, if_false] at w
          exact absurd w.symm (hNa _ (.inr (.inr (.inr ⟨z, t'', e', rfl⟩))))
    · rw [if_neg q] at e
      obtain ⟨a1, a1', a2, a3, a4⟩ := B.own y t' e
      simp only [q, if_false]
      refine ⟨a1, a1', a2, a3, fun z t'' e' w => ?_⟩
      by_cases qz : z = x
      · simp only [qz, if_true] at w
        exact absurd w (hNa _ (.inr (.inr (.inr ⟨y, t', e, rfl⟩))))
      · rw [lookup_cons, if_neg qz] at e'
        simp only [qz, if_false] at w
        exact a4 z t'' e' w

/-- a name's own object is frozen: it will turn no more -/
theorem Bd.freeze (B : Bd c σ m α h) {x : Str} {t : Tr} (e : σ.lookup x = some (.own t)) : Bd c ((x, .tree t) :: σ) m α h := by
  have nM : ¬ Mut c ((x, .tree t) :: σ) α (α x) := by
    obtain ⟨a1, a1', a2, a3, a4⟩ := B.own x t e
    rintro (M | M | ⟨n, M⟩ | ⟨y, t', e', M⟩)
    · exact a1' M
    · exact a2 M
    · exact a3 n _ M rfl
    · rw [lookup_cons] at e'
      split at e'
      · cases e'
      · rename_i q; exact q (a4 y t' e' M.symm).symm
  have B' : Bd c ((x, .tree t) :: σ) m α h := ⟨B.ns, B.above, B.keep, B.muAt, B.cells, B.cinj, fun y lv e' => by
      rw [lookup_cons] at e'
      by_cases q : y = x
      · subst q
        rw [if_pos rfl] at e'; cases e'
        obtain ⟨v, X, rfl, r⟩ := B.val y _ e
        refine ⟨_, X, ?_⟩
        cases t with
        | list ts => obtain ⟨vs, n, e1, e2⟩ := r; exact ⟨_, vs, n, rfl, nM, e1, e2.weak fun b M => mut_cons_tree M⟩
        | dict ks ts => obtain ⟨es, vs, n, e1, e2, e3, e4⟩ := r; exact ⟨_, es, vs, n, rfl, nM, e1, e2, e3, e4.weak fun b M => mut_cons_tree M⟩
        | _ => exact r.elim
      · rw [if_neg q] at e'
        obtain ⟨v, X, r⟩ := B.val y lv e'
        exact ⟨v, X, r.imp (fun _ _ _ e => e) fun b o hn e => ⟨e, fun M => hn (mut_cons_tree M)⟩⟩, fun y t' e' => by
      rw [lookup_cons] at e'
      split at e'
      · cases e'
      · obtain ⟨a1, a1', a2, a3, a4⟩ := B.own y t' e'
        refine ⟨a1, a1', a2, a3, fun z t'' e'' => ?_⟩
        rw [lookup_cons] at e''
        split at e''
        · cases e''
        · exact a4 z t'' e''⟩
  exact B'

/-- a name's own object turns -/
theorem Bd.updOwn (B : Bd c σ m α h) {x : Str} {t t' : Tr} (e : σ.lookup x = some (.own t)) (hv : OR h' (Mut c σ α) (α x) t') (hs : Heap.SameBut (α x) h h') :
    Bd c ((x, .own t') :: σ) m α h' := by
  have Mx : Mut c σ α (α x) := .inr (.inr (.inr ⟨x, t, e, rfl⟩))
  obtain ⟨a1, a1', a2, a3, a4⟩ := B.own x t e
  have up : ∀ b, Mut c ((x, .own t') :: σ) α b → Mut c σ α b := by
    intro b M
    rcases M with M | M | M | ⟨y, t'', e', M⟩
    · exact .inl M
    · exact .inr (.inl M)
    · exact .inr (.inr (.inl M))
    · rw [lookup_cons] at e'
      split at e'
      · rename_i q; subst q; exact M ▸ Mx
      · exact .inr (.inr (.inr ⟨y, t'', e', M⟩))
  refine ⟨B.ns.sameBut hs (Ne.symm a2), B.above, fun b o e => (hs.2 b fun z => ?_).trans (B.keep b o e), B.muSame hs (by cases t' with | list ts => obtain ⟨vs, n, e, _⟩ := hv; exact ⟨_, e⟩ | dict ks ts => obtain ⟨es, vs, n, e, _⟩ := hv; exact ⟨_, e⟩ | _ => exact hv.elim), fun n a e => ⟨(B.cells n a e).1, let ⟨v, q⟩ := (B.cells n a e).2; ⟨v, q.sameBut hs (Ne.symm (a3 n a e))⟩⟩, B.cinj, fun y lv e' => ?_, fun y t'' e' => ?_⟩
  · exact someNe e a1 z
  · rw [lookup_cons] at e'
    have cellOk : ∀ y a v, c.env.cells.lookup y = some a → h.IsCell a v → h'.IsCell a v := fun y a v z w => w.sameBut hs fun u => by
      cases q : c.s0.heap.get? a with
      | none => exact a3 y a ⟨z, q⟩ u.symm
      | some o => exact someNe q a1 u
    by_cases q : y = x
    · subst q
      rw [if_pos rfl] at e'; cases e'
      obtain ⟨v, X, rfl, r⟩ := B.val y _ e
      exact ⟨_, X.imp (cellOk y), rfl, OR.imp (fun _ e => e) (fun b o hn e => ⟨e, fun M => hn (up b M)⟩) hv⟩
    · rw [if_neg q] at e'
      obtain ⟨v, X, r⟩ := B.val y lv e'
      refine ⟨v, X.imp (cellOk y), r.imp (fun t z o e'' => ?_) fun b o hn e => ⟨(hs.2 b fun z => hn (z ▸ Mx)).trans e, fun M => hn (up b M)⟩⟩
      subst z
      exact (hs.2 _ fun z => q ((B.own y t e').2.2.2.2 x _ e z)).trans e''
  · rw [lookup_cons] at e'
    by_cases q : y = x
    · subst q
      refine ⟨a1, a1', a2, a3, fun z t'' e'' => ?_⟩
      rw [lookup_cons] at e''
      by_cases qz : z = y
      · exact fun _ => qz.symm
      · rw [if_neg qz] at e''; exact a4 z t'' e''
    · rw [if_neg q] at e'
      obtain ⟨b1, b1', b2, b3, b4⟩ := B.own y t'' e'
      refine ⟨b1, b1', b2, b3, fun z t'' e'' => ?_⟩
      rw [lookup_cons] at e''
      by_cases qz : z = x
      · subst qz; exact b4 z _ e
      · rw [if_neg qz] at e''; exact b4 z _ e''
end
end TL
end
/-! ### TLR1 -/
section
open PySem PyProof.Rows
namespace TL

/-- a def of the text -/
structure Df where
  name : Str
  params : Arguments
  body : List Stmt
  scope : Scope

structure Pm where
  prog : Program
  w : World
  mg : Str → Option Value
  defs : List Df

structure DefAt (P : Pm) (h : Heap) (d : Df) (a : Addr) (dV kV cdv : Value) : Prop where
  named : P.mg d.name = some (.ref a)
  obj : ∃ oc od osl doc pm an ct, h.get? a = some ⟨oc, od, .func (W.fnOf d.name d.name d.params d.body d.scope dV kV doc pm an cdv ct), osl⟩
  code : h.CodeRec cdv d.name
  dflt : d.params.defaults = [] → dV = .none
  dflt1 : ∀ k p, d.params.defaults = [.Constant .none k p] → ∃ T o n, dV = .ref T ∧ h.get? T = some o ∧ o.data = .seq #[.none] n

structure Wd (P : Pm) (h : Heap) : Prop where
  g : h.Ns mainGlobals P.mg
  b : ∃ mb, h.Ns builtinsNs mb ∧ ∀ x : Str, x ≠ "__name__" → mb x = bootBuiltins x
  lim : h.NoLimit
  defs : ∀ d ∈ P.defs, ∃ a dV kV cdv, DefAt P h d a dV kV cdv

theorem DefAt.keeps {P : Pm} {h h' : Heap} {d : Df} {a : Addr} {dV kV cdv : Value} (D : DefAt P h d a dV kV cdv) (H : ∀ b o, h.get? b = some o → h'.get? b = some o) : DefAt P h' d a dV kV cdv where
  named := D.named
  obj := let ⟨oc, od, osl, doc, pm, an, ct, e⟩ := D.obj; ⟨oc, od, osl, doc, pm, an, ct, H _ _ e⟩
  code := D.code.keeps H
  dflt := D.dflt
  dflt1 := fun k p e => let ⟨T, o, n, e1, e2, e3⟩ := D.dflt1 k p e; ⟨T, o, n, e1, H _ _ e2, e3⟩

theorem Wd.keeps {P : Pm} {h h' : Heap} (W : Wd P h) (H : ∀ b o, h.get? b = some o → h'.get? b = some o) : Wd P h' where
  g := W.g.keeps H
  b := let ⟨mb, e, q⟩ := W.b; ⟨mb, e.keeps H, q⟩
  lim := W.lim.keeps H
  defs := fun d hd => let ⟨a, dV, kV, cdv, D⟩ := W.defs d hd; ⟨a, dV, kV, cdv, D.keeps H⟩

/-- what stands fast in an activation; k: how deep it may still call -/
structure Cx.Ok (c : Cx) (P : Pm) (k : Nat) : Prop where
  prog : c.prog = P.prog
  w : c.w = P.w
  fn : c.env.scope.kind = .function
  glob : c.env.globals = mainGlobals
  blt : c.env.builtins = builtinsNs
  wd : Wd P c.s0.heap
  hh : c.A.handled = none
  depth : c.A.depth + k < recursionLimit
  units : c.A.units + 8 * k + 8 < cLine

noncomputable def Kp (s s' : Shared) : Prop := Keeps s s'

noncomputable def EvOK (c : Cx) (σ : Sg) (e : Expr) (r : Tr) : Prop := ∀ s m α, Bd c σ m α s.heap →
  wpAny (model c.prog c.w) c.A (eval e c.env) (fun v s' => Kp s s' ∧ RT s'.heap (Mut c σ α) r v) (fun _ _ => False) s

/-- what may be read, a name's own object too -/
noncomputable def RdR (h : Heap) (N : Addr → Prop) (t : Tr) (v : Value) : Prop := match t with
  | .list ts => ∃ a vs n, v = .ref a ∧ h.get? a = some (sobj "list" vs n) ∧ RTs h N ts vs
  | .dict ks ts => ∃ a es vs n, v = .ref a ∧ h.get? a = some (dobj es n) ∧ ks.Nodup ∧ EntsOf ks vs es ∧ RTs h N ts vs
  | t => RT h N t v

theorem RT.rd {h : Heap} {N : Addr → Prop} : ∀ {t : Tr} {v : Value}, RT h N t v → RdR h N t v
  | .none, _, x => x
  | .bool _, _, x => x
  | .int _, _, x => x
  | .str _, _, x => x
  | .bytes _, _, x => x
  | .type _, _, x => x
  | .tuple ts, _, x => x
  | .list ts, _, ⟨a, vs, n, e, hn, hg, r⟩ => ⟨a, vs, n, e, hg, r⟩
  | .dict ks ts, _, ⟨a, es, vs, n, e, hn, hg, hd, he, r⟩ => ⟨a, es, vs, n, e, hg, hd, he, r⟩
noncomputable def EvRd (c : Cx) (σ : Sg) (e : Expr) (r : Tr) : Prop := ∀ s m α, Bd c σ m α s.heap →
  wpAny (model c.prog c.w) c.A (eval e c.env) (fun v s' => Kp s s' ∧ RdR s'.heap (Mut c σ α) r v) (fun _ _ => False) s

/-- a new object, no one else's -/
noncomputable def EvNew (c : Cx) (σ : Sg) (e : Expr) (r : Tr) : Prop := ∀ s m α, Bd c σ m α s.heap →
  wpAny (model c.prog c.w) c.A (eval e c.env) (fun v s' => Kp s s' ∧ ∃ a, v = .ref a ∧ s.heap.get? a = none ∧ OR s'.heap (fun b => Mut c σ α b ∨ b = a) a r) (fun _ _ => False) s

noncomputable def TsOK (c : Cx) (σ : Sg) (e : Expr) (b : Bool) : Prop := ∀ s m α, Bd c σ m α s.heap →
  wpAny (model c.prog c.w) c.A (isTrue e c.env (eval e c.env)) (fun v s' => Kp s s' ∧ v = b) (fun _ _ => False) s

section
variable {c : Cx} {σ : Sg} {P : Pm} {k : Nat}

theorem Kp.heap {s s' : Shared} (K : Kp s s') : ∀ b o, s.heap.get? b = some o → s'.heap.get? b = some o := by
  obtain ⟨h', tk, rfl, H⟩ := K; exact H
theorem Kp.tks {s s' : Shared} (K : Kp s s') (tk : Nat) : Keeps s { s' with toks := tk } := by
  obtain ⟨h', tk', rfl, H⟩ := K; exact ⟨h', tk, rfl, H⟩
theorem Kp.trans' {s s' s'' : Shared} (K : Kp s s') (K' : Kp s' s'') : Kp s s'' := by
  obtain ⟨h', tk', rfl, H⟩ := K
  obtain ⟨h'', tk'', rfl, H'⟩ := K'
  exact ⟨h'', tk'', rfl, fun b o e => H' b o (H b o e)⟩
theorem Kp.rfl' (s : Shared) : Kp s s := ⟨s.heap, s.toks, rfl, fun _ _ e => e⟩

theorem EvOK.rd {e : Expr} {r : Tr} (H : EvOK c σ e r) : EvRd c σ e r := fun s m α B => wpAny_mono (H s m α B) (fun v s' h => ⟨h.1, h.2.rd⟩) fun _ _ x => x

theorem EvNew.ok {e : Expr} {r : Tr} (H : EvNew c σ e r) : EvOK c σ e r := fun s m α B => wpAny_mono (H s m α B) (fun v s' h => by
  obtain ⟨K, a, rfl, ha, O⟩ := h
  refine ⟨K, ?_⟩
  have nM : ¬ Mut c σ α a := fun M => B.mutNe M ha rfl
  cases r with
  | list ts => obtain ⟨vs, n, e1, e2⟩ := O; exact ⟨_, vs, n, rfl, nM, e1, e2.weak fun b M => .inl M⟩
  | dict ks ts => obtain ⟨es, vs, n, e1, e2, e3, e4⟩ := O; exact ⟨_, es, vs, n, rfl, nM, e1, e2, e3, e4.weak fun b M => .inl M⟩
  | _ => exact O.elim) fun _ _ x => x

/-- the first thing is reckoned, then on -/
theorem EvOK.then {e : Expr} {r : Tr} (H : EvOK c σ e r) {s : Shared} {m : Str → Option Value} {α : Str → Addr} (B : Bd c σ m α s.heap) {E : Value → Shared → Prop} {Q : Value → Shared → Prop}
    (k : ∀ v s', Kp s s' → Bd c σ m α s'.heap → RT s'.heap (Mut c σ α) r v → Q v s') : wpAny (model c.prog c.w) c.A (eval e c.env) Q E s :=
  wpAny_mono (H s m α B) (fun v s' h => k v s' h.1 (B.keeps h.1.heap) h.2) fun _ _ x => x.elim
theorem EvRd.then {e : Expr} {r : Tr} (H : EvRd c σ e r) {s : Shared} {m : Str → Option Value} {α : Str → Addr} (B : Bd c σ m α s.heap) {E : Value → Shared → Prop} {Q : Value → Shared → Prop}
    (k : ∀ v s', Kp s s' → Bd c σ m α s'.heap → RdR s'.heap (Mut c σ α) r v → Q v s') : wpAny (model c.prog c.w) c.A (eval e c.env) Q E s :=
  wpAny_mono (H s m α B) (fun v s' h => k v s' h.1 (B.keeps h.1.heap) h.2) fun _ _ x => x.elim
theorem TsOK.then {e : Expr} {b : Bool} (H : TsOK c σ e b) {s : Shared} {m : Str → Option Value} {α : Str → Addr} (B : Bd c σ m α s.heap) {E : Value → Shared → Prop} {Q : Bool → Shared → Prop}
    (k : ∀ s', Kp s s' → Bd c σ m α s'.heap → Q b s') : wpAny (model c.prog c.w) c.A (isTrue e c.env (eval e c.env)) Q E s :=
  wpAny_mono (H s m α B) (fun v s' h => by obtain ⟨h1, rfl⟩ := h; exact k s' h1 (B.keeps h1.heap)) fun _ _ x => x.elim

/-! names -/
theorem loadName_of (O : c.Ok P k) {s : Shared} {m : Str → Option Value} {α : Str → Addr} (B : Bd c σ m α s.heap) {x : Str} {v : Value} (X : Holds c s.heap m x v) {E : Value → Shared → Prop} {Q : Value → Shared → Prop}
    (h : Q v s) (hd : (x == ("__classdict__" : Str)) = false) : wpAny (model c.prog c.w) c.A (loadName c.env x) Q E s := by
  rcases X with ⟨k, e⟩ | ⟨k | k, a, e, q⟩
  · exact wpAny_loadName_local O.fn k B.ns e h
  · exact wpAny_loadName_cell O.fn k e q h
  · exact wpAny_loadName_free O.fn k e q h hd

theorem ev_name (O : c.Ok P k) {x : Str} {pos : Pos} {r : Tr} (e : σ.lookup x = some (.tree r)) (hd : (x == ("__debug__" : Str)) = false := by decide) (hd' : (x == ("__classdict__" : Str)) = false := by decide) :
    EvOK c σ (.Name x pos) r := fun s m α B => by
  obtain ⟨v, X, q⟩ := B.val x _ e
  exact wpAny_Name (loadName_of O B X ⟨Kp.rfl' s, q⟩ hd') hd

theorem rd_own (O : c.Ok P k) {x : Str} {pos : Pos} {r : Tr} (e : σ.lookup x = some (.own r)) (hd : (x == ("__debug__" : Str)) = false := by decide) (hd' : (x == ("__classdict__" : Str)) = false := by decide) :
    EvRd c σ (.Name x pos) r := fun s m α B => by
  obtain ⟨v, X, rfl, q⟩ := B.val x _ e
  refine wpAny_Name (loadName_of O B X ⟨Kp.rfl' s, ?_⟩ hd') hd
  cases r with
  | list ts => obtain ⟨vs, n, e1, e2⟩ := q; exact ⟨_, vs, n, rfl, e1, e2⟩
  | dict ks ts => obtain ⟨es, vs, n, e1, e2⟩ := q; exact ⟨_, es, vs, n, rfl, e1, e2⟩
  | _ => exact q.elim

theorem Cx.Ok.globs (O : c.Ok P k) {h : Heap} {m : Str → Option Value} {α : Str → Addr} (B : Bd c σ m α h) : Wd P h := O.wd.keeps B.keep

theorem name_global (O : c.Ok P k) {s : Shared} {m : Str → Option Value} {α : Str → Addr} (B : Bd c σ m α s.heap) {x : Str} {pos : Pos} {v : Value} {E : Value → Shared → Prop} {Q : Value → Shared → Prop}
    (hk : c.env.kindOf x = some .globalImplicit) (e : P.mg x = some v) (h : Q v s) (hd : (x == ("__debug__" : Str)) = false) : wpAny (model c.prog c.w) c.A (eval (.Name x pos) c.env) Q E s :=
  Calls.Name_function_global O.fn hk (Calls.loadGlobal_global (by rw [O.glob]; exact (O.globs B).g) e h) hd
theorem name_builtin (O : c.Ok P k) {s : Shared} {m : Str → Option Value} {α : Str → Addr} (B : Bd c σ m α s.heap) {x : Str} {pos : Pos} {v : Value} {E : Value → Shared → Prop} {Q : Value → Shared → Prop}
    (hk : c.env.kindOf x = some .globalImplicit) (e : P.mg x = none) (hb : bootBuiltins x = some v) (h : Q v s) (hn : x ≠ "__name__") (hd : (x == ("__debug__" : Str)) = false) : wpAny (model c.prog c.w) c.A (eval (.Name x pos) c.env) Q E s := by
  obtain ⟨mb, b1, b2⟩ := (O.globs B).b
  exact Calls.Name_function_global O.fn hk (Calls.loadGlobal_builtin (by rw [O.glob]; exact (O.globs B).g) e (by rw [O.blt]; exact b1) ((b2 x hn).trans hb) h) hd

/-- a global that is plain data -/
noncomputable def Flat : Tr → Value → Prop
  | .none, v => v = .none
  | .bool b, v => v = .bool b
  | .int i, v => ∃ t, v = .int i t
  | .str s, v => ∃ t, v = .str s t
  | .bytes b, v => ∃ t, v = .bytes b t
  | .type n, v => v = .type n
  | _, _ => False
theorem Flat.rt {h : Heap} {N : Addr → Prop} : ∀ {t : Tr} {v : Value}, Flat t v → RT h N t v
  | .none, _, x => x
  | .bool _, _, x => x
  | .int _, _, x => x
  | .str _, _, x => x
  | .bytes _, _, x => x
  | .type _, _, x => x
  | .list _, _, x => x.elim
  | .tuple _, _, x => x.elim
  | .dict _ _, _, x => x.elim

theorem ev_global (O : c.Ok P k) {x : Str} {pos : Pos} {r : Tr} (G : ∃ v, P.mg x = some v ∧ Flat r v) (hk : c.env.kindOf x = some .globalImplicit := by rfl) (hd : (x == ("__debug__" : Str)) = false := by decide) :
    EvOK c σ (.Name x pos) r := fun s m α B => by
  obtain ⟨v, e, f⟩ := G
  exact name_global O B hk e ⟨Kp.rfl' s, f.rt⟩ hd
theorem ev_type (O : c.Ok P k) {x : Str} {pos : Pos} {n : String} (G : P.mg x = none) (hb : bootBuiltins x = some (.type n)) (hk : c.env.kindOf x = some .globalImplicit := by rfl) (hd : (x == ("__debug__" : Str)) = false := by decide) (hn : x ≠ "__name__" := by decide) :
    EvOK c σ (.Name x pos) (.type n) := fun s m α B => name_builtin O B hk G hb ⟨Kp.rfl' s, rfl⟩ hn hd

/-! constants -/
theorem ev_int {i : Int} {k' : Nat} {pos : Pos} : EvOK c σ (.Constant (.int i) k' pos) (.int i) := fun s m α B => wpAny_Constant_int ⟨(Kp.rfl' s).tks _, _, rfl⟩
theorem ev_none {k' : Nat} {pos : Pos} : EvOK c σ (.Constant .none k' pos) .none := fun s m α B => wpAny_Constant_none ⟨Kp.rfl' s, rfl⟩
theorem ev_bool {b : Bool} {k' : Nat} {pos : Pos} : EvOK c σ (.Constant (.bool b) k' pos) (.bool b) := fun s m α B => wpAny_Constant_bool ⟨Kp.rfl' s, rfl⟩
theorem ev_str {x : Str} {k' : Nat} {pos : Pos} : EvOK c σ (.Constant (.str x) k' pos) (.str x) := fun s m α B => wpAny_Constant_str ⟨(Kp.rfl' s).tks _, _, rfl⟩

/-! two operands -/
theorem ev_bin {l r : Expr} {op : Operator} {pos : Pos} {a b t : Tr} (H₁ : EvOK c σ l a) (H₂ : EvOK c σ r b)
    (h : ∀ s m α (B : Bd c σ m α s.heap) u v, RT s.heap (Mut c σ α) a u → RT s.heap (Mut c σ α) b v → wpAny (model c.prog c.w) c.A (binaryOp op u v) (fun v s' => Kp s s' ∧ RT s'.heap (Mut c σ α) t v) (fun _ _ => False) s) :
    EvOK c σ (.BinOp l op r pos) t := fun s m α B => wpAny_BinOp (H₁.then B fun u s₁ K₁ B₁ R₁ => H₂.then B₁ fun v s₂ K₂ B₂ R₂ =>
      wpAny_mono (h s₂ m α B₂ u v (R₁.keep K₂.heap) R₂) (fun w s₃ h₃ => ⟨(K₁.trans' K₂).trans' h₃.1, h₃.2⟩) fun _ _ x => x)

theorem ev_add {l r : Expr} {pos : Pos} {a b : Int} (H₁ : EvOK c σ l (.int a)) (H₂ : EvOK c σ r (.int b)) : EvOK c σ (.BinOp l .Add r pos) (.int (a + b)) :=
  ev_bin H₁ H₂ fun s m α B u v ⟨t, e⟩ ⟨t', e'⟩ => by subst e e'; exact add_int ⟨(Kp.rfl' s).tks _, _, rfl⟩
theorem ev_sub {l r : Expr} {pos : Pos} {a b : Int} (H₁ : EvOK c σ l (.int a)) (H₂ : EvOK c σ r (.int b)) : EvOK c σ (.BinOp l .Sub r pos) (.int (a - b)) :=
  ev_bin H₁ H₂ fun s m α B u v ⟨t, e⟩ ⟨t', e'⟩ => by subst e e'; exact sub_int ⟨(Kp.rfl' s).tks _, _, rfl⟩
theorem ev_mul {l r : Expr} {pos : Pos} {a b : Int} (H₁ : EvOK c σ l (.int a)) (H₂ : EvOK c σ r (.int b)) (hm : IntMulOk a b) : EvOK c σ (.BinOp l .Mult r pos) (.int (a * b)) :=
  ev_bin H₁ H₂ fun s m α B u v ⟨t, e⟩ ⟨t', e'⟩ => by subst e e'; exact mul_int ⟨(Kp.rfl' s).tks _, _, rfl⟩ hm
theorem ev_mod {l r : Expr} {pos : Pos} {a b : Int} (H₁ : EvOK c σ l (.int a)) (H₂ : EvOK c σ r (.int b)) (hb : b ≠ 0) : EvOK c σ (.BinOp l .Mod r pos) (.int (a.fmod b)) :=
  ev_bin H₁ H₂ fun s m α B u v ⟨t, e⟩ ⟨t', e'⟩ => by subst e e'; exact mod_int hb ⟨(Kp.rfl' s).tks _, _, rfl⟩
theorem ev_floordiv {l r : Expr} {pos : Pos} {a b : Int} (H₁ : EvOK c σ l (.int a)) (H₂ : EvOK c σ r (.int b)) (hb : b ≠ 0) (hp : Builtin.divisionGoesByPylong a b = false) : EvOK c σ (.BinOp l .FloorDiv r pos) (.int (a.fdiv b)) :=
  ev_bin H₁ H₂ fun s m α B u v ⟨t, e⟩ ⟨t', e'⟩ => by subst e e'; exact floordiv_int hb ⟨(Kp.rfl' s).tks _, _, rfl⟩ (.inl hp)
theorem ev_pow {l r : Expr} {pos : Pos} {a b : Int} (H₁ : EvOK c σ l (.int a)) (H₂ : EvOK c σ r (.int b)) (hn : 0 ≤ b) (hs : (Builtin.Int.intBits a : Int) * b ≤ 2 ^ 27) : EvOK c σ (.BinOp l .Pow r pos) (.int (a ^ b.toNat)) :=
  ev_bin H₁ H₂ fun s m α B u v ⟨t, e⟩ ⟨t', e'⟩ => by subst e e'; exact pow_int hn hs ⟨(Kp.rfl' s).tks _, _, rfl⟩
theorem ev_lshift {l r : Expr} {pos : Pos} {a b : Int} (H₁ : EvOK c σ l (.int a)) (H₂ : EvOK c σ r (.int b)) (hn : 0 ≤ b) (hs : (Builtin.Int.intBits a : Int) + b ≤ 2 ^ 27) : EvOK c σ (.BinOp l .LShift r pos) (.int (a * 2 ^ b.toNat)) :=
  ev_bin H₁ H₂ fun s m α B u v ⟨t, e⟩ ⟨t', e'⟩ => by subst e e'; exact lshift_int hn hs ⟨(Kp.rfl' s).tks _, _, rfl⟩
theorem ev_rshift {l r : Expr} {pos : Pos} {a b : Int} (H₁ : EvOK c σ l (.int a)) (H₂ : EvOK c σ r (.int b)) (hn : 0 ≤ b) : EvOK c σ (.BinOp l .RShift r pos) (.int (a.fdiv (2 ^ b.toNat))) :=
  ev_bin H₁ H₂ fun s m α B u v ⟨t, e⟩ ⟨t', e'⟩ => by subst e e'; exact rshift_int hn ⟨(Kp.rfl' s).tks _, _, rfl⟩
theorem ev_and {l r : Expr} {pos : Pos} {a b : Int} (H₁ : EvOK c σ l (.int a)) (H₂ : EvOK c σ r (.int b)) : EvOK c σ (.BinOp l .BitAnd r pos) (.int (Builtin.bitAnd a b)) :=
  ev_bin H₁ H₂ fun s m α B u v ⟨t, e⟩ ⟨t', e'⟩ => by subst e e'; exact and_int ⟨(Kp.rfl' s).tks _, _, rfl⟩
theorem ev_or {l r : Expr} {pos : Pos} {a b : Int} (H₁ : EvOK c σ l (.int a)) (H₂ : EvOK c σ r (.int b)) : EvOK c σ (.BinOp l .BitOr r pos) (.int (Builtin.bitOr a b)) :=
  ev_bin H₁ H₂ fun s m α B u v ⟨t, e⟩ ⟨t', e'⟩ => by subst e e'; exact or_int ⟨(Kp.rfl' s).tks _, _, rfl⟩
end
end TL
end
/-! ### TLR2 -/
section
open PySem PyProof.Rows
namespace TL
section
variable {c : Cx} {σ : Sg} {P : Pm} {k : Nat}

/-! comparisons -/
noncomputable def CmpOK (c : Cx) (op : CmpOp) (a b : Tr) (t : Bool) : Prop := ∀ (s : Shared) N u v, RT s.heap N a u → RdR s.heap N b v →
  wpAny (model c.prog c.w) c.A (compareOp op u v) (fun w s' => Kp s s' ∧ w = .bool t) (fun _ _ => False) s

theorem ev_cmp {l r : Expr} {op : CmpOp} {pos : Pos} {a b : Tr} {t : Bool} (H₁ : EvOK c σ l a) (H₂ : EvRd c σ r b) (h : CmpOK c op a b t) (hm : behindInMarks op r = false := by with_unfolding_all rfl) :
    EvOK c σ (.Compare l [op] [r] pos) (.bool t) := fun s m α B =>
  wpAny_Compare1 (H₁.then B fun u s₁ K₁ B₁ R₁ => H₂.then B₁ fun v s₂ K₂ B₂ R₂ => wpAny_mono (h s₂ _ u v (R₁.keep K₂.heap) R₂) (fun w s₃ h₃ => ⟨(K₁.trans' K₂).trans' h₃.1, h₃.2⟩) fun _ _ x => x) hm
theorem ts_cmp {l r : Expr} {op : CmpOp} {pos : Pos} {a b : Tr} {t : Bool} (H₁ : EvOK c σ l a) (H₂ : EvRd c σ r b) (h : CmpOK c op a b t) (hm : behindInMarks op r = false := by with_unfolding_all rfl) :
    TsOK c σ (.Compare l [op] [r] pos) t := fun s m α B =>
  wpAny_isTrue_Compare1 (H₁.then B fun u s₁ K₁ B₁ R₁ => H₂.then B₁ fun v s₂ K₂ B₂ R₂ => wpAny_mono (h s₂ _ u v (R₁.keep K₂.heap) R₂)
    (fun w s₃ h₃ => by obtain ⟨h3, rfl⟩ := h₃; exact wpAny_truthy_bool ⟨(K₁.trans' K₂).trans' h3, rfl⟩) fun _ _ x => x) hm

theorem cmp_lt {a b : Int} : CmpOK c .Lt (.int a) (.int b) (decide (a < b)) := fun s N u v ⟨t, e⟩ ⟨t', e'⟩ => by subst e e'; exact lt_int ⟨Kp.rfl' s, rfl⟩
theorem cmp_gt {a b : Int} : CmpOK c .Gt (.int a) (.int b) (decide (b < a)) := fun s N u v ⟨t, e⟩ ⟨t', e'⟩ => by subst e e'; exact gt_int ⟨Kp.rfl' s, rfl⟩
theorem cmp_ge {a b : Int} : CmpOK c .GtE (.int a) (.int b) (decide (b ≤ a)) := fun s N u v ⟨t, e⟩ ⟨t', e'⟩ => by subst e e'; exact PyProof.Rows.ge_int ⟨Kp.rfl' s, rfl⟩
theorem cmp_eq {a b : Int} : CmpOK c .Eq (.int a) (.int b) (a == b) := fun s N u v ⟨t, e⟩ ⟨t', e'⟩ => by subst e e'; exact eq_int ⟨Kp.rfl' s, rfl⟩
theorem cmp_ne {a b : Int} : CmpOK c .NotEq (.int a) (.int b) (a != b) := fun s N u v ⟨t, e⟩ ⟨t', e'⟩ => by subst e e'; exact ne_int ⟨Kp.rfl' s, rfl⟩
theorem cmp_eqs {a b : Str} : CmpOK c .Eq (.str a) (.str b) (a == b) := fun s N u v ⟨t, e⟩ ⟨t', e'⟩ => by subst e e'; exact PyProof.Rows.eq_str ⟨Kp.rfl' s, rfl⟩
theorem cmp_nes {a b : Str} : CmpOK c .NotEq (.str a) (.str b) (a != b) := fun s N u v ⟨t, e⟩ ⟨t', e'⟩ => by subst e e'; exact PyProof.Rows.ne_str ⟨Kp.rfl' s, rfl⟩
theorem cmp_neb {a b : Array UInt8} : CmpOK c .NotEq (.bytes a) (.bytes b) (a.toList != b.toList) := fun s N u v ⟨t, e⟩ ⟨t', e'⟩ => by subst e e'; exact W.ne_bytes ⟨Kp.rfl' s, rfl⟩
theorem cmp_isN {b : Bool} : CmpOK c .Is (.bool b) .none false := fun s N u v e e' => by
  have e : u = .bool b := e
  have e' : v = .none := e'
  subst e e'; exact wpAny_is_other rfl (by intro x; cases x) ⟨Kp.rfl' s, rfl⟩
theorem cmp_isNotNN : CmpOK c .IsNot .none .none false := fun s N u v e e' => by
  have e : u = .none := e
  have e' : v = .none := e'
  subst e e'; exact isNot_none ⟨Kp.rfl' s, by decide⟩
theorem cmp_isT {x y : String} {t : Bool} (ht : (Value.type x == Value.type y) = t) : CmpOK c .Is (.type x) (.type y) t := fun s N u v e e' => by
  have e : u = .type x := e
  have e' : v = .type y := e'
  subst e e' ht; exact wpAny_is_plain rfl ⟨Kp.rfl' s, rfl⟩

/-! truth -/
noncomputable def TrOK (c : Cx) (a : Tr) (t : Bool) : Prop := ∀ (s : Shared) N u, RdR s.heap N a u → wpAny (model c.prog c.w) c.A (truthy u) (fun w s' => Kp s s' ∧ w = t) (fun _ _ => False) s

theorem tr_bool {b : Bool} : TrOK c (.bool b) b := fun s N u e => by
  have e : u = .bool b := e
  subst e; exact wpAny_truthy_bool ⟨Kp.rfl' s, rfl⟩
theorem tr_int {i : Int} : TrOK c (.int i) (i != 0) := fun s N u ⟨t, e⟩ => by subst e; exact PyProof.Rows.truthy_int ⟨Kp.rfl' s, rfl⟩
theorem tr_str {x : Str} (hx : x.length < 2 ^ 62) : TrOK c (.str x) (x.length != 0) := fun s N u ⟨t, e⟩ => by
  subst e
  have h0 : ((x.length : Nat) : Int) < 2 ^ 62 := by exact_mod_cast hx
  refine PySem.P.truthy_str (by (first | lia | omega)) ⟨((Kp.rfl' s).tks _), ?_⟩
  cases hx : x.length <;> simp <;> (first | lia | omega)
theorem tr_tuple {ts : List Tr} (hx : ts.length < 2 ^ 62) : TrOK c (.tuple ts) (ts.length != 0) := fun s N u ⟨a, vs, n, e, hn, hg, R⟩ => by
  subst e
  have hl := R.length
  refine truthy_tuple (items := vs.toArray) ⟨_, hg, rfl, n, rfl⟩ (by
    have h1 : ((ts.length : Nat) : Int) < 2 ^ 62 := by exact_mod_cast hx
    simp; (first | lia | omega)) ?_
  refine ⟨(Kp.rfl' s).tks _, ?_⟩
  cases hx : ts.length <;> simp [hx] at hl <;> cases vs <;> simp_all

theorem ts_value {e : Expr} {a : Tr} {t : Bool} (H : EvRd c σ e a) (h : TrOK c a t) (he : isTrue e c.env (eval e c.env) = (do let v ← eval e c.env; standAt e.pos; holding [v] (truthy v)) := by rfl) : TsOK c σ e t := fun s m α B =>
  wpAny_isTrue_value (H.then B fun u s₁ K₁ B₁ R₁ => wpAny_mono (h s₁ _ u R₁) (fun w s₂ h₂ => ⟨K₁.trans' h₂.1, h₂.2⟩) fun _ _ x => x) he
theorem ts_not {e : Expr} {pos : Pos} {t : Bool} (H : TsOK c σ e t) : TsOK c σ (.UnaryOp .Not e pos) (!t) := fun s m α B =>
  wpAny_isTrue_Not (wpAny_mono (H s m α B) (fun b s₁ h => ⟨h.1, by rw [h.2]⟩) fun _ _ x => x)

noncomputable def AllOK (c : Cx) (σ : Sg) (op : BoolOp) (es : List Expr) (b : Bool) : Prop := ∀ s m α, Bd c σ m α s.heap →
  wpAny (model c.prog c.w) c.A (allTrue op es c.env) (fun v s' => Kp s s' ∧ v = b) (fun _ _ => False) s
theorem all_and_nil : AllOK c σ .And [] true := fun s m α B => wpAny_allTrue_And_nil ⟨Kp.rfl' s, rfl⟩
theorem all_or_nil : AllOK c σ .Or [] false := fun s m α B => wpAny_allTrue_Or_nil ⟨Kp.rfl' s, rfl⟩
theorem all_and {e : Expr} {es : List Expr} {a b : Bool} (H : TsOK c σ e a) (H' : a = true → AllOK c σ .And es b) : AllOK c σ .And (e :: es) (a && b) := fun s m α B =>
  wpAny_allTrue_And_cons (H.then B fun s₁ K₁ B₁ => by
    cases a with
    | false => exact ⟨K₁, rfl⟩
    | true => exact wpAny_mono (H' rfl s₁ m α B₁) (fun v s₂ h => ⟨K₁.trans' h.1, by simp [h.2]⟩) fun _ _ x => x)
theorem all_or {e : Expr} {es : List Expr} {a b : Bool} (H : TsOK c σ e a) (H' : a = false → AllOK c σ .Or es b) : AllOK c σ .Or (e :: es) (a || b) := fun s m α B =>
  wpAny_allTrue_Or_cons (H.then B fun s₁ K₁ B₁ => by
    cases a with
    | true => exact ⟨K₁, rfl⟩
    | false => exact wpAny_mono (H' rfl s₁ m α B₁) (fun v s₂ h => ⟨K₁.trans' h.1, by simp [h.2]⟩) fun _ _ x => x)
theorem ts_bool {op : BoolOp} {es : List Expr} {pos : Pos} {b : Bool} (H : AllOK c σ op es b) : TsOK c σ (.BoolOp op es pos) b := fun s m α B => wpAny_isTrue_BoolOp (H s m α B)

/-- x or y, as a value -/
theorem ev_or2 {x y : Expr} {pos : Pos} {a r : Tr} {t : Bool} (H : EvOK c σ x a) (h : TrOK c a t) (h1 : t = true → r = a) (H2 : t = false → EvOK c σ y r) : EvOK c σ (.BoolOp .Or [x, y] pos) r := fun s m α B =>
  wpAny_Or2 (H.then B fun u s₁ K₁ B₁ R₁ => wpAny_mono (h s₁ _ u R₁.rd) (fun w s₂ h₂ => by
    obtain ⟨K₂, rfl⟩ := h₂
    cases w with
    | true => rw [if_pos rfl, h1 rfl]; exact ⟨K₁.trans' K₂, R₁.keep K₂.heap⟩
    | false =>
      rw [if_neg (by simp)]
      exact wpAny_mono (H2 rfl s₂ m α (B₁.keeps K₂.heap)) (fun v s₃ h₃ => ⟨(K₁.trans' K₂).trans' h₃.1, h₃.2⟩) fun _ _ x => x) fun _ _ x => x)

theorem ev_ifexp {test body orelse : Expr} {pos : Pos} {t : Bool} {r : Tr} (H : TsOK c σ test t) (h1 : t = true → EvOK c σ body r) (h2 : t = false → EvOK c σ orelse r) : EvOK c σ (.IfExp test body orelse pos) r := fun s m α B =>
  wpAny_IfExp (H.then B fun s₁ K₁ B₁ => by
    cases t with
    | true => rw [if_pos rfl]; exact wpAny_mono (h1 rfl s₁ m α B₁) (fun v s₃ h₃ => ⟨K₁.trans' h₃.1, h₃.2⟩) fun _ _ x => x
    | false => rw [if_neg (by simp)]; exact wpAny_mono (h2 rfl s₁ m α B₁) (fun v s₃ h₃ => ⟨K₁.trans' h₃.1, h₃.2⟩) fun _ _ x => x)

theorem ev_neg {e : Expr} {pos : Pos} {a : Int} (H : EvOK c σ e (.int a)) : EvOK c σ (.UnaryOp .USub e pos) (.int (-a)) := fun s m α B =>
  wpAny_UnaryOp (H.then B fun u s₁ K₁ B₁ ⟨t, e⟩ => by subst e; exact neg_int ⟨K₁.tks _, _, rfl⟩)

end
end TL
end
/-! ### TLR3 -/
section
open PySem PyProof.Rows
namespace TL
section
variable {c : Cx} {σ : Sg} {P : Pm} {k : Nat}

/-! slices -/
noncomputable def PartOK (c : Cx) (σ : Sg) (e : Option Expr) (o : Option Int) : Prop := ∀ s m α, Bd c σ m α s.heap →
  wpAny (model c.prog c.w) c.A (evalPart e c.env) (fun v s' => Kp s s' ∧ IsPart v o) (fun _ _ => False) s
theorem part_no : PartOK c σ none none := fun s m α B => wpAny_evalPart_none ⟨Kp.rfl' s, .none⟩
theorem part_int {e : Expr} {i : Int} (H : EvOK c σ e (.int i)) : PartOK c σ (some e) (some i) := fun s m α B =>
  wpAny_evalPart_some (H.then B fun v s₁ K B₁ ⟨t, e⟩ => ⟨K, by subst e; exact .int i t⟩)
theorem part_none {e : Expr} (H : EvOK c σ e .none) : PartOK c σ (some e) none := fun s m α B =>
  wpAny_evalPart_some (H.then B fun v s₁ K B₁ e => ⟨K, by have e : v = .none := e; subst e; exact .none⟩)

noncomputable def strSl (x : Str) (lo hi st : Option Int) : Str :=
  if ((st.getD 1 == 1) && ((Builtin.Str.strSliceIndices lo hi (st.getD 1) x.length).length == x.length)) = true then x
  else ⟨((Builtin.Str.strSliceIndices lo hi (st.getD 1) x.length).filterMap (x.cps[·]?)).toArray⟩

noncomputable def partTok (v : Value) (o : Option Int) : Option (Int × Tok) := match v, o with
  | .int i t, _ => some (i, t)
  | _, _ => none
theorem partTok_is {v : Value} {o : Option Int} (h : IsPart v o) : v = partValue (partTok v o) ∧ (partTok v o).map (·.1) = o := by
  cases h <;> exact ⟨rfl, rfl⟩

theorem len_strSl (x : Str) (lo hi st : Option Int) (h0 : st ≠ some 0) : (strSl x lo hi st).length ≤ x.length := by
  unfold strSl
  split
  · exact Nat.le_refl _
  · show (List.toArray _).size ≤ _
    rw [List.size_toArray]
    refine Nat.le_trans (List.length_filterMap_le _ _) ?_
    unfold Builtin.Str.strSliceIndices
    refine sliceRange_length_le _ _ _ _ (fun hc => ?_) fun hc => ?_
    · simp only [hc, if_true]
      constructor
      · cases lo with
        | none => simp
        | some i => dsimp only; omega
      · cases hi with
        | none => simp
        | some i => dsimp only; omega
    · simp only [hc, if_false]
      constructor
      · cases lo with
        | none => simp
        | some i => dsimp only; omega
      · cases hi with
        | none => simp
        | some i => dsimp only; omega

theorem ev_slice_str {value : Expr} {lower upper step : Option Expr} {p pos : Pos} {x : Str} {lo hi st : Option Int} (H : EvOK c σ value (.str x)) (HL : PartOK c σ lower lo) (HU : PartOK c σ upper hi) (HS : PartOK c σ step st)
    (h0 : st ≠ some 0) (hx : x.length ≤ sizeLine) (hs : ∀ o i, ∃ ops, subscripted (.Slice lower upper step p) false o i = operate ops (getItem o i)) :
    EvOK c σ (.Subscript value (.Slice lower upper step p) pos) (.str (strSl x lo hi st)) := fun s m α B => by
  refine Subscript_ (H.then B fun u s₁ K₁ B₁ ⟨t, e⟩ => ?_)
  subst e
  refine wpAny_Slice (wpAny_mono (HL s₁ m α B₁) (fun vl s₂ h₂ => ?_) fun _ _ x => x.elim)
  obtain ⟨K₂, pl⟩ := h₂
  have B₂ := B₁.keeps K₂.heap
  refine wpAny_mono (HU s₂ m α B₂) (fun vu s₃ h₃ => ?_) fun _ _ x => x.elim
  obtain ⟨K₃, pu⟩ := h₃
  have B₃ := B₂.keeps K₃.heap
  refine wpAny_mono (HS s₃ m α B₃) (fun vs s₄ h₄ => ?_) fun _ _ x => x.elim
  obtain ⟨K₄, ps⟩ := h₄
  obtain ⟨ops, ho⟩ := hs (.str x t) (.ref s₄.heap.objs.size)
  have KK : Kp s { s₄ with heap := s₄.heap.push { cls := .type "slice", data := .fields #[vl, vu, vs] } } :=
    ((K₁.trans' K₂).trans' (K₃.trans' K₄)).trans' ⟨_, s₄.toks, rfl, fun b o e => Heap.get?_push_of_some _ e⟩
  have hsl : (s₄.heap.push { cls := .type "slice", data := .fields #[vl, vu, vs] }).IsSlice s₄.heap.objs.size (partTok vl lo) (partTok vu hi) (partTok vs st) :=
    ⟨_, Heap.get?_push_size _ rfl, rfl, by rw [← (partTok_is pl).1, ← (partTok_is pu).1, ← (partTok_is ps).1]⟩
  refine tail_any (T := "str") (typeIs_str _ x t) F.slot_str_getitem.lookup (wpAny_getItem_str_slice hsl ?_ ?_) ho
  · rw [(partTok_is ps).2]
    cases st with
    | none => rfl
    | some q => simpa using fun z => h0 (by rw [z])
  · have hsz := len_strSl x lo hi st h0
    have e : sliceMade x t (partTok vl lo) (partTok vu hi) (partTok vs st) = if ((st.getD 1 == 1) && ((Builtin.Str.strSliceIndices lo hi (st.getD 1) x.length).length == x.length)) = true then Made.val (.str x t)
        else Made.str ⟨((Builtin.Str.strSliceIndices lo hi (st.getD 1) x.length).filterMap (x.cps[·]?)).toArray⟩ := by
      unfold sliceMade slicePicked
      rw [(partTok_is pl).2, (partTok_is pu).2, (partTok_is ps).2]
    rw [e]
    unfold strSl at hsz ⊢
    by_cases q : ((st.getD 1 == 1) && ((Builtin.Str.strSliceIndices lo hi (st.getD 1) x.length).length == x.length)) = true
    · rw [if_pos q]
      simp only [if_pos q]
      exact ⟨KK, t, rfl⟩
    · rw [if_neg q] at hsz ⊢
      simp only [if_neg q]
      exact ⟨Nat.le_trans hsz hx, KK.tks _, _, rfl⟩

noncomputable def pickL {α : Type} (xs : List α) (lo hi st : Option Int) : List α :=
  (sliceRange (sliceBounds lo hi st xs.length).1 (sliceBounds lo hi st xs.length).2.1 (sliceBounds lo hi st xs.length).2.2).filterMap (xs[·]?)

theorem RTs.pick {h : Heap} {N : Addr → Prop} {ts : List Tr} {vs : List Value} (R : RTs h N ts vs) (lo hi st : Option Int) : RTs h N (pickL ts lo hi st) (slicePick vs.toArray lo hi st).toList := by
  unfold pickL slicePick
  rw [List.size_toArray, R.length]
  generalize sliceRange _ _ _ = is
  simp only
  induction is with
  | nil => simp [RTs]
  | cons i is ih =>
    simp only [List.filterMap_cons, List.getElem?_toArray]
    cases e : ts[i]? with
    | none =>
      have : vs[i]? = none := by rw [List.getElem?_eq_none_iff] at e ⊢; rw [R.length]; exact e
      rw [this]; simpa using ih
    | some t =>
      obtain ⟨v, e', r⟩ := R.get e
      rw [e']
      exact ⟨v, _, rfl, r, by simpa using ih⟩

theorem ev_slice_list {value : Expr} {lower upper step : Option Expr} {p pos : Pos} {ts : List Tr} {lo hi st : Option Int} (H : EvRd c σ value (.list ts)) (HL : PartOK c σ lower lo) (HU : PartOK c σ upper hi) (HS : PartOK c σ step st)
    (h0 : st ≠ some 0) (hx : ts.length ≤ sizeLine) (hs : ∀ o i, ∃ ops, subscripted (.Slice lower upper step p) false o i = operate ops (getItem o i)) :
    EvNew c σ (.Subscript value (.Slice lower upper step p) pos) (.list (pickL ts lo hi st)) := fun s m α B => by
  refine Subscript_ (H.then B fun u s₁ K₁ B₁ R => ?_)
  obtain ⟨a, vs, n, rfl, hg, R⟩ := R
  refine wpAny_Slice (wpAny_mono (HL s₁ m α B₁) (fun vl s₂ h₂ => ?_) fun _ _ x => x.elim)
  obtain ⟨K₂, pl⟩ := h₂
  have B₂ := B₁.keeps K₂.heap
  refine wpAny_mono (HU s₂ m α B₂) (fun vu s₃ h₃ => ?_) fun _ _ x => x.elim
  obtain ⟨K₃, pu⟩ := h₃
  have B₃ := B₂.keeps K₃.heap
  refine wpAny_mono (HS s₃ m α B₃) (fun vst s₄ h₄ => ?_) fun _ _ x => x.elim
  obtain ⟨K₄, ps⟩ := h₄
  obtain ⟨ops, ho⟩ := hs (.ref a) (.ref s₄.heap.objs.size)
  have K₁₄ := (K₂.trans' K₃).trans' K₄
  have up : ∀ b o, s₁.heap.get? b = some o → (s₄.heap.push { cls := .type "slice", data := .fields #[vl, vu, vst] }).get? b = some o := fun b o e => Heap.get?_push_of_some _ (K₁₄.heap b o e)
  have hl : (s₄.heap.push { cls := .type "slice", data := .fields #[vl, vu, vst] }).IsList a vs.toArray := ⟨_, up _ _ hg, rfl, n, rfl⟩
  refine tail_any (T := "list") hl.typeIs slot_list_getitem.lookup (wpAny_getItem_list_slice hl (Heap.IsSliceOf.new ..) pl pu ps h0 ?_ (by rw [List.size_toArray, R.length]; exact hx)) ho
  have hgt : ∀ b o, s.heap.get? b = some o → s₄.heap.get? b = some o := (K₁.trans' K₁₄).heap
  refine ⟨(K₁.trans' K₁₄).trans' ⟨_, s₄.toks, rfl, fun b o e => Heap.get?_push_of_some _ (Heap.get?_push_of_some _ e)⟩, _, rfl, ?_, ?_⟩
  · rw [Heap.size_push]
    cases q : s.heap.get? (s₄.heap.objs.size + 1) with
    | none => rfl
    | some o => exact absurd (Nat.lt_of_succ_lt (Heap.lt_size (hgt _ _ q))) (Nat.lt_irrefl _)
  · refine ⟨(slicePick vs.toArray lo hi st).toList, 0, ?_, ?_⟩
    · simpa using Heap.get?_push_size (s₄.heap.push { cls := .type "slice", data := .fields #[vl, vu, vst] }) (o := { cls := .type "list", data := .seq (slicePick vs.toArray lo hi st) }) rfl
    · refine RTs.imp (fun b o hn e => ⟨Heap.get?_push_of_some _ (up b o e), ?_⟩) _ _ (R.pick lo hi st)
      rintro (M | rfl)
      · exact hn M
      · have := Heap.lt_size (up _ _ e)
        exact Nat.lt_irrefl _ this
end
end TL
end
/-! ### TLR4 -/
section
open PySem PyProof.Rows
namespace TL
section
variable {c : Cx} {σ : Sg} {P : Pm} {k : Nat}

/-! items -/
theorem ev_item_str {value slice : Expr} {pos : Pos} {x : Str} {i : Int} (H : EvOK c σ value (.str x)) (HI : EvOK c σ slice (.int i)) (h1 : -(x.length : Int) ≤ i) (h2 : i < x.length) (hx : x.length ≤ sizeLine)
    (hs : ∀ o i, subscripted slice false o i = operate [o, i] (getItem o i)) (ht : ∀ o r, letTemporaryGo value o r = pure ()) :
    EvOK c σ (.Subscript value slice pos) (.str (Txt.item x i)) := fun s m α B => by
  refine Subscript_ (H.then B fun u s₁ K₁ B₁ ⟨t, e⟩ => HI.then B₁ fun v s₂ K₂ B₂ ⟨t', e'⟩ => ?_)
  subst e e'
  have hz : (x.length : Int) ≤ 16777216 := by have := hx; rw [sizeLine_eq] at this; (first | lia | omega)
  exact PyProof.Rows.item_str (by unfold PySem.fitsSsize; simp; (first | lia | omega)) h1 h2 (fun _ => ⟨(K₁.trans' K₂).tks _, _, rfl⟩) (hs _ _) (ht _)

theorem ev_item_list {value slice : Expr} {pos : Pos} {ts : List Tr} {t : Tr} {i : Int} (H : EvRd c σ value (.list ts)) (HI : EvOK c σ slice (.int i)) (h0 : 0 ≤ i) (h1 : i < 2 ^ 63) (ht : ts[i.toNat]? = some t)
    (hs : ∀ o i, subscripted slice false o i = operate [o, i] (getItem o i)) : EvOK c σ (.Subscript value slice pos) t := fun s m α B => by
  refine Subscript_ (H.then B fun u s₁ K₁ B₁ ⟨a, vs, n, e, hg, R⟩ => HI.then B₁ fun v s₂ K₂ B₂ ⟨t', e'⟩ => ?_)
  subst e e'
  obtain ⟨w, hw, r⟩ := R.get ht
  have hl : s₂.heap.IsList a vs.toArray := ⟨_, K₂.heap _ _ hg, rfl, n, rfl⟩
  exact tail_any hl.typeIs slot_list_getitem.lookup (wpAny_getItem_list hl h0 h1 (by simpa using hw) ⟨K₁.trans' K₂, r.keep K₂.heap⟩) (hs _ _)
theorem ev_item_list_neg {value slice : Expr} {pos : Pos} {ts : List Tr} {t : Tr} {i : Int} (H : EvRd c σ value (.list ts)) (HI : EvOK c σ slice (.int i)) (h0 : i < 0) (h1 : -(ts.length : Int) ≤ i) (h2 : -(2 ^ 63) ≤ i) (ht : ts[(i + ts.length).toNat]? = some t)
    (hs : ∀ o i, subscripted slice false o i = operate [o, i] (getItem o i)) : EvOK c σ (.Subscript value slice pos) t := fun s m α B => by
  refine Subscript_ (H.then B fun u s₁ K₁ B₁ ⟨a, vs, n, e, hg, R⟩ => HI.then B₁ fun v s₂ K₂ B₂ ⟨t', e'⟩ => ?_)
  subst e e'
  obtain ⟨w, hw, r⟩ := R.get ht
  have hl : s₂.heap.IsList a vs.toArray := ⟨_, K₂.heap _ _ hg, rfl, n, rfl⟩
  have hle := R.length
  exact tail_any hl.typeIs slot_list_getitem.lookup (wpAny_getItem_list_neg hl h0 (by simp [hle]; exact h1) h2 (by simpa [hle] using hw) ⟨K₁.trans' K₂, r.keep K₂.heap⟩) (hs _ _)
theorem ev_item_tuple {value slice : Expr} {pos : Pos} {ts : List Tr} {t : Tr} {i : Int} (H : EvOK c σ value (.tuple ts)) (HI : EvOK c σ slice (.int i)) (h0 : 0 ≤ i) (h1 : i < 2 ^ 63) (ht : ts[i.toNat]? = some t)
    (hs : ∀ o i, subscripted slice false o i = operate [o, i] (getItem o i)) : EvOK c σ (.Subscript value slice pos) t := fun s m α B => by
  refine Subscript_ (H.then B fun u s₁ K₁ B₁ ⟨a, vs, n, e, hn, hg, R⟩ => HI.then B₁ fun v s₂ K₂ B₂ ⟨t', e'⟩ => ?_)
  subst e e'
  obtain ⟨w, hw, r⟩ := R.get ht
  have hl : IsTup s₂.heap a vs.toArray := ⟨_, K₂.heap _ _ hg, rfl, n, rfl⟩
  have hlt : i.toNat < ts.length := (List.getElem?_eq_some_iff.mp ht).1
  refine tail_any hl.typeIs slot_tuple_getitem.lookup (getItem_tuple (j := i.toNat) hl (by (first | lia | omega)) h1 ?_ (by simpa using hw) ⟨K₁.trans' K₂, r.keep K₂.heap⟩) (hs _ _)
  have hn : ¬ i < 0 := by (first | lia | omega)
  have : i.toNat < vs.toArray.size := by rw [List.size_toArray, R.length]; exact hlt
  unfold seqIndex?
  simp only [hn, if_false]
  rw [if_pos (by simp only [Bool.and_eq_true, decide_eq_true_eq]; (first | lia | omega))]

theorem ev_item_bytes {value slice : Expr} {pos : Pos} {l : List UInt8} {i : Int} (H : EvOK c σ value (.bytes l.toArray)) (HI : EvOK c σ slice (.int i)) (h0 : 0 ≤ i) (h1 : i < l.length) (hfit : l.length ≤ 1099511627776)
    (hs : ∀ o i, subscripted slice false o i = operate [o, i] (getItem o i)) : EvOK c σ (.Subscript value slice pos) (.int (l.getD i.toNat 0).toNat) := fun s m α B => by
  refine Subscript_ (H.then B fun u s₁ K₁ B₁ ⟨t, e⟩ => HI.then B₁ fun v s₂ K₂ B₂ ⟨t', e'⟩ => ?_)
  subst e e'
  exact tail_any (T := "bytes") (W.typeIs_bytes _ _ _) W.FB.slot_bytes_getitem.lookup (W.getItem_bytes hfit h0 h1 ⟨(K₁.trans' K₂).tks _, _, rfl⟩) (hs _ _)

/-! dicts -/
noncomputable def dget {β : Type} : List Int → List β → Int → Option β
  | k :: ks, v :: vs, i => if k = i then some v else dget ks vs i
  | _, _, _ => none

theorem EntsOf.keys {ks : List Int} {vs : List Value} {es : List DictEntry} (H : EntsOf ks vs es) : ∀ e ∈ es, ∃ k t, e.key = .int k t ∧ e.hash = hashInt k := by
  induction H with
  | nil => intro e h; cases h
  | cons he _ ih =>
    intro e' h'
    rcases List.mem_cons.mp h' with rfl | h'
    · obtain ⟨t, rfl⟩ := he; exact ⟨_, t, rfl, rfl⟩
    · exact ih e' h'
theorem EntsOf.find {ks : List Int} {vs : List Value} {es : List DictEntry} (H : EntsOf ks vs es) (i : Int) : (es.find? fun e => Value.isInt i e.key).map (·.val) = dget ks vs i := by
  induction H with
  | nil => rfl
  | @cons k v e ks vs es he _ ih =>
    obtain ⟨t, rfl⟩ := he
    simp only [List.find?_cons, dget, Value.isInt]
    by_cases q : k = i
    · simp [q]
    · have : (k == i) = false := by simpa using q
      simp only [this, q, if_false]
      exact ih
theorem EntsOf.len {ks : List Int} {vs : List Value} {es : List DictEntry} (H : EntsOf ks vs es) : vs.length = ks.length ∧ es.length = ks.length := by
  induction H with
  | nil => exact ⟨rfl, rfl⟩
  | cons _ _ ih => exact ⟨congrArg (· + 1) ih.1, congrArg (· + 1) ih.2⟩
theorem EntsOf.snoc {ks : List Int} {vs : List Value} {es : List DictEntry} (H : EntsOf ks vs es) (i : Int) (t : Tok) (v : Value) : EntsOf (ks ++ [i]) (vs ++ [v]) (es ++ [⟨hashInt i, .int i t, v⟩]) := by
  induction H with
  | nil => exact .cons ⟨t, rfl⟩ .nil
  | cons he _ ih => exact .cons he ih
theorem EntsOf.intMap {h : Heap} {a : Addr} {ks : List Int} {vs : List Value} {es : List DictEntry} {n : Nat} (E : EntsOf ks vs es) (hg : h.get? a = some (dobj es n)) : h.IntMap a (dget ks vs) :=
  ⟨_, es.toArray, n, hg, rfl, rfl, fun e he => E.keys e (by simpa using he), fun i => by
    rw [← E.find i]
    unfold findBy
    rw [← Array.find?_toList]⟩
theorem RTs.dget {h : Heap} {N : Addr → Prop} : ∀ {ks : List Int} {ts : List Tr} {vs : List Value}, RTs h N ts vs → ∀ i, (match TL.dget ks ts i with | some t => ∃ v, TL.dget ks vs i = some v ∧ RT h N t v | none => TL.dget ks vs i = none)
  | [], ts, vs, R, i => by simp [TL.dget]
  | k :: ks, [], vs, R, i => by simp [RTs] at R; subst R; simp [TL.dget]
  | k :: ks, t :: ts, _, ⟨v, r, rfl, x, y⟩, i => by
    simp only [TL.dget]
    by_cases q : k = i
    · simp [q]; exact x
    · simp only [q, if_false]; exact RTs.dget y i

theorem ev_item_dict {value slice : Expr} {pos : Pos} {ks : List Int} {ts : List Tr} {t : Tr} {i : Int} (H : EvRd c σ value (.dict ks ts)) (HI : EvOK c σ slice (.int i)) (ht : dget ks ts i = some t)
    (hs : ∀ o i, subscripted slice false o i = operate [o, i] (getItem o i)) : EvOK c σ (.Subscript value slice pos) t := fun s m α B => by
  refine Subscript_ (H.then B fun u s₁ K₁ B₁ ⟨a, es, vs, n, e, hg, hd, E, R⟩ => HI.then B₁ fun v s₂ K₂ B₂ ⟨t', e'⟩ => ?_)
  subst e e'
  have r := R.dget (ks := ks) i
  rw [ht] at r
  obtain ⟨w, hw, r⟩ := r
  have hm := E.intMap (K₂.heap _ _ hg)
  exact tail_any (T := "dict") hm.typeIs slot_dict_getitem.lookup (wpAny_getItem_intMap hm hw ⟨(K₁.trans' K₂).tks _, r.keep K₂.heap⟩) (hs _ _)

theorem dget_isSome {β : Type} : ∀ {ks : List Int} {vs : List β} (i : Int), vs.length = ks.length → (dget ks vs i).isSome = decide (i ∈ ks)
  | [], vs, i, h => by simp [dget]
  | k :: ks, [], i, h => by simp at h
  | k :: ks, v :: vs, i, h => by
    simp only [dget]
    by_cases q : k = i
    · simp [q]
    · have q' : ¬ i = k := fun z => q z.symm
      simp only [q, if_false, List.mem_cons, q', false_or]
      exact dget_isSome i (by simpa using h)

theorem cmp_in {i : Int} {ks : List Int} {ts : List Tr} : CmpOK c .In (.int i) (.dict ks ts) (decide (i ∈ ks)) := fun s N u v ⟨t, e⟩ ⟨a, es, vs, n, e', hg, hd, E, R⟩ => by
  subst e e'
  exact wpAny_in_intMap (E.intMap hg) ⟨(Kp.rfl' s).tks _, by rw [dget_isSome i E.len.1]⟩

theorem contains_int {d : Addr} {f : Int → Option Value} {i : Int} {t : Tok} {s : Shared} {A : Around} {prog : Program} {w : World} {E : Value → Shared → Prop} {Q : Bool → Shared → Prop} (hm : s.heap.IntMap d f) (h : Q (f i).isSome { s with toks := s.toks + 1 }) :
    wpAny (model prog w) A (contains (.ref d) (.int i t)) Q E s := by
  unfold contains
  try with_reducible refine wpAny_holding ?_
  refine wpAny_bind (wpAny_specialOf hm.typeIs slot_dict_contains.lookup ?_)
  show wpAny _ _ (if (some (Value.builtin "dict.__contains__") == some Value.none) = true then _ else _) _ E s
  rw [if_neg (by rw [beq_builtin_none]; exact Bool.false_ne_true)]
  refine wpAny_bind (wpAny_callSpecialUnlessNone?_slot (name := Str.ofString "__contains__") hm.typeIs slot_dict_contains
    (wpAny_call_entry slot_dict_contains hm.typeIs entry_dict_contains ?_ (args_dict_contains _ _)))
  show wpAny _ _ (dictGet d (.int i t) >>= _) _ _ s
  refine wpAny_bind (wpAny_dictGet_int hm ?_)
  cases hf : f i with
  | some v =>
    rw [hf] at h
    show wpAny _ _ (ret (.bool true)) _ _ _
    exact wpAny_pure ⟨_, rfl, wpAny_truthy_bool h⟩
  | none =>
    rw [hf] at h
    show wpAny _ _ (Builtin.Dict.pendingKey? d (.int i t) >>= _) _ _ _
    exact wpAny_bind (wpAny_pendingKey_int (wpAny_pure ⟨_, rfl, wpAny_truthy_bool h⟩))

theorem cmp_notIn {i : Int} {ks : List Int} {ts : List Tr} : CmpOK c .NotIn (.int i) (.dict ks ts) (!(decide (i ∈ ks))) := fun s N u v ⟨t, e⟩ ⟨a, es, vs, n, e', hg, hd, E, R⟩ => by
  subst e e'
  show wpAny _ _ (do return Value.bool (!(← contains (.ref a) (.int i t)))) _ _ s
  exact wpAny_bind (contains_int (E.intMap hg) (wpAny_pure ⟨(Kp.rfl' s).tks _, by rw [dget_isSome i E.len.1]⟩))
end
end TL
end
/-! ### TLR5 -/
section
open PySem PyProof.Rows
namespace TL

inductive Fl where | next (σ : Sg) | brk (σ : Sg) | cont (σ : Sg) | ret (t : Tr)

/-- what is not the activation's own to turn stands -/
noncomputable def Fz (c : Cx) (σ : Sg) (α : Str → Addr) (h : Heap) (σ' : Sg) (α' : Str → Addr) (h' : Heap) : Prop :=
  ∀ b o, ¬ Mut c σ α b → h.get? b = some o → h'.get? b = some o ∧ ¬ Mut c σ' α' b

noncomputable def Post (c : Cx) (σ : Sg) (α : Str → Addr) (s : Shared) (Φ : Fl → Prop) (fl : Flow) (s' : Shared) : Prop :=
  ∃ h' tk σ' m' α', s' = { s with heap := h', toks := tk } ∧ Bd c σ' m' α' h' ∧ Fz c σ α s.heap σ' α' h' ∧ (match fl with
    | .next => Φ (.next σ') | .brk => Φ (.brk σ') | .cont => Φ (.cont σ') | .ret v => ∃ t, RT h' c.mu t v ∧ Φ (.ret t))

noncomputable def ExOK (c : Cx) (σ : Sg) (ss : List Stmt) (Φ : Fl → Prop) : Prop := ∀ s m α, Bd c σ m α s.heap →
  wpAny (model c.prog c.w) c.A (execs ss c.env) (Post c σ α s Φ) (fun _ _ => False) s
noncomputable def StOK (c : Cx) (σ : Sg) (st : Stmt) (Φ : Fl → Prop) : Prop := ∀ s m α, Bd c σ m α s.heap →
  wpAny (model c.prog c.w) c.A (exec st c.env) (Post c σ α s Φ) (fun _ _ => False) s

section
variable {c : Cx} {σ : Sg} {P : Pm} {k : Nat} {m : Str → Option Value} {α : Str → Addr}

theorem Fz.trans {σ₁ σ₂ : Sg} {α₁ α₂ : Str → Addr} {h h₁ h₂ : Heap} (F : Fz c σ α h σ₁ α₁ h₁) (G : Fz c σ₁ α₁ h₁ σ₂ α₂ h₂) : Fz c σ α h σ₂ α₂ h₂ := fun b o hn e =>
  let ⟨e1, n1⟩ := F b o hn e
  G b o n1 e1
theorem Fz.of_keep {h h' : Heap} (H : ∀ b o, h.get? b = some o → h'.get? b = some o) : Fz c σ α h σ α h' := fun b o hn e => ⟨H b o e, hn⟩

theorem Post.up {σ₁ : Sg} {α₁ : Str → Addr} {s s₁ : Shared} {Φ : Fl → Prop} {fl : Flow} {s' : Shared} (e : ∃ h tk, s₁ = { s with heap := h, toks := tk }) (F : Fz c σ α s.heap σ₁ α₁ s₁.heap) (X : Post c σ₁ α₁ s₁ Φ fl s') : Post c σ α s Φ fl s' := by
  obtain ⟨h, tk, rfl⟩ := e
  obtain ⟨h', tk', σ', m', α', rfl, B, G, r⟩ := X
  exact ⟨h', tk', σ', m', α', rfl, B, F.trans G, r⟩
theorem Post.kp {s s₁ : Shared} {Φ : Fl → Prop} {fl : Flow} {s' : Shared} (K : Kp s s₁) (X : Post c σ α s₁ Φ fl s') : Post c σ α s Φ fl s' := by
  obtain ⟨h, tk, rfl, H⟩ := K
  exact Post.up ⟨h, tk, rfl⟩ (Fz.of_keep H) X
theorem Post.mono {s : Shared} {Φ Φ' : Fl → Prop} {fl : Flow} {s' : Shared} (X : Post c σ α s Φ fl s') (H : ∀ f, Φ f → Φ' f) : Post c σ α s Φ' fl s' := by
  obtain ⟨h', tk', σ', m', α', rfl, B, G, r⟩ := X
  refine ⟨h', tk', σ', m', α', rfl, B, G, ?_⟩
  cases fl with
  | ret v => obtain ⟨t, r, q⟩ := r; exact ⟨t, r, H _ q⟩
  | _ => exact H _ r

theorem StOK.mono {st : Stmt} {Φ Φ' : Fl → Prop} (X : StOK c σ st Φ) (H : ∀ f, Φ f → Φ' f) : StOK c σ st Φ' := fun s m α B => wpAny_mono (X s m α B) (fun _ _ x => x.mono H) fun _ _ x => x

theorem ex_nil {Φ : Fl → Prop} (h : Φ (.next σ)) : ExOK c σ [] Φ := fun s m α B => wpAny_execs_nil ⟨s.heap, s.toks, σ, m, α, rfl, B, Fz.of_keep fun _ _ e => e, h⟩

noncomputable def Sq (c : Cx) (rest : List Stmt) (Φ : Fl → Prop) : Fl → Prop
  | .next σ' => ExOK c σ' rest Φ
  | f => Φ f

theorem ex_cons {st : Stmt} {rest : List Stmt} {Φ : Fl → Prop} (X : StOK c σ st (Sq c rest Φ)) : ExOK c σ (st :: rest) Φ := fun s m α B => by
  refine wpAny_execs_cons (wpAny_mono (X s m α B) (fun f s₁ h => ?_) fun _ _ x => x)
  obtain ⟨h', tk', σ', m', α', rfl, B', F, r⟩ := h
  cases f with
  | next => exact wpAny_mono (r _ m' α' B') (fun fl s₂ x => x.up ⟨h', tk', rfl⟩ F) fun _ _ x => x
  | brk => exact ⟨h', tk', σ', m', α', rfl, B', F, r⟩
  | cont => exact ⟨h', tk', σ', m', α', rfl, B', F, r⟩
  | ret v => exact ⟨h', tk', σ', m', α', rfl, B', F, r⟩

/-- the facts may be turned first: frozen, dropped -/
theorem ex_freeze {x : Str} {t : Tr} {ss : List Stmt} {Φ : Fl → Prop} (e : σ.lookup x = some (.own t)) (X : ExOK c ((x, .tree t) :: σ) ss Φ) : ExOK c σ ss Φ := fun s m α B =>
  wpAny_mono (X s m α (B.freeze e)) (fun fl s₁ x => x.up ⟨s.heap, s.toks, rfl⟩ fun b o hn e' => ⟨e', fun M => hn (mut_cons_tree M)⟩) fun _ _ x => x
theorem ex_sub {σ' : Sg} {ss : List Stmt} {Φ : Fl → Prop} (H : ∀ x lv, σ'.lookup x = some lv → σ.lookup x = some lv) (X : ExOK c σ' ss Φ) : ExOK c σ ss Φ := fun s m α B =>
  wpAny_mono (X s m α (B.sub H)) (fun fl s₁ x => x.up ⟨s.heap, s.toks, rfl⟩ fun b o hn e' => ⟨e', fun M => hn (by
    rcases M with M | M | M | ⟨y, t', e, M⟩
    · exact .inl M
    · exact .inr (.inl M)
    · exact .inr (.inr (.inl M))
    · exact .inr (.inr (.inr ⟨y, t', H _ _ e, M⟩)))⟩) fun _ _ x => x

/-! stores -/
noncomputable def Sto (c : Cx) (x : Str) : Prop := c.env.kindOf x = some .local ∨ (c.env.kindOf x = some .cell ∧ ∃ a, c.ownCell x a)

theorem notNs (O : c.Ok P k) : (c.env.scope.kind == .class || (c.env.scope.kind == .module && c.env.locals != c.env.globals)) = false := by rw [O.fn]; rfl

theorem store_tree (O : c.Ok P k) {x : Str} (hx : Sto c x) {s : Shared} (B : Bd c σ m α s.heap) {t : Tr} {v : Value} (R : RT s.heap (Mut c σ α) t v) {Q : Unit → Shared → Prop} {E : Value → Shared → Prop}
    (h : ∀ h' tk m', Bd c ((x, .tree t) :: σ) m' α h' → Fz c σ α s.heap ((x, .tree t) :: σ) α h' → Q () { s with heap := h', toks := tk }) : wpAny (model c.prog c.w) c.A (storeName c.env x v) Q E s := by
  rcases hx with hk | ⟨hk, a, ha⟩
  · refine wpAny_storeName_local hk B.ns (fun h' hn hs => h h' _ _ (B.setLocal hk R hn hs) fun b o hn' e => ?_) (notNs O)
    exact ⟨(hs.2 b fun z => hn' (.inr (.inl z))).trans e, fun M => hn' (mut_cons_tree M)⟩
  · obtain ⟨v₀, hc⟩ := (B.cells x a ha).2
    refine wpAny_storeName_cell O.fn hk ha.1 hc fun h' hn hs => h h' s.toks _ (B.setCell hk ha R hn hs) fun b o hn' e => ?_
    exact ⟨(hs.2 b fun z => hn' (.inr (.inr (.inl ⟨x, z ▸ ha⟩)))).trans e, fun M => hn' (mut_cons_tree M)⟩

theorem store_own (O : c.Ok P k) {x : Str} (hk : c.env.kindOf x = some .local) {s₀ s : Shared} (B₀ : Bd c σ m α s₀.heap) (K : Kp s₀ s) {t : Tr} {a : Addr} (ha : s₀.heap.get? a = none) (R : OR s.heap (fun b => Mut c σ α b ∨ b = a) a t)
    {Q : Unit → Shared → Prop} {E : Value → Shared → Prop}
    (h : ∀ h' tk m' α', Bd c ((x, .own t) :: σ) m' α' h' → Fz c σ α s₀.heap ((x, .own t) :: σ) α' h' → Q () { s with heap := h', toks := tk }) : wpAny (model c.prog c.w) c.A (storeName c.env x (.ref a)) Q E s := by
  have B := B₀.keeps K.heap
  refine wpAny_storeName_local hk B.ns (fun h' hn hs => h h' _ _ _ (B₀.setOwn K.heap hk ha R hn hs) fun b o hn' e => ?_) (notNs O)
  refine ⟨(hs.2 b fun z => hn' (.inr (.inl z))).trans (K.heap _ _ e), ?_⟩
  rintro (M | M | M | ⟨y, t', e', M⟩)
  · exact hn' (.inl M)
  · exact hn' (.inr (.inl M))
  · exact hn' (.inr (.inr (.inl M)))
  · by_cases q : y = x
    · simp only [q, if_true] at M
      exact someNe e ha M.symm
    · rw [lookup_cons, if_neg q] at e'
      simp only [q, if_false] at M
      exact hn' (.inr (.inr (.inr ⟨y, t', e', M⟩)))

theorem st_assign (O : c.Ok P k) {x : Str} {px pos : Pos} {e : Expr} {t : Tr} {Φ : Fl → Prop} (hx : Sto c x) (H : EvOK c σ e t) (h : Φ (.next ((x, .tree t) :: σ)))
    (hw : swapsWith e (some (.Name x px)) pos.line c.env = pure false := by rfl) : StOK c σ (.Assign [.Name x px] e pos) Φ := fun s m α B =>
  wpAny_Assign_Name (H.then B fun v s₁ K B₁ R => store_tree O hx B₁ R fun h' tk m' B₂ F => by
    obtain ⟨h₁, tk₁, rfl, H₁⟩ := K
    exact ⟨h', tk, _, m', α, rfl, B₂, (Fz.of_keep H₁).trans F, h⟩) hw

theorem st_assign_new (O : c.Ok P k) {x : Str} {px pos : Pos} {e : Expr} {t : Tr} {Φ : Fl → Prop} (H : EvNew c σ e t) (h : Φ (.next ((x, .own t) :: σ))) (hk : c.env.kindOf x = some .local := by rfl)
    (hw : swapsWith e (some (.Name x px)) pos.line c.env = pure false := by rfl) : StOK c σ (.Assign [.Name x px] e pos) Φ := fun s m α B =>
  wpAny_Assign_Name (wpAny_mono (H s m α B) (fun v s₁ h₁ => by
    obtain ⟨K, a, rfl, ha, R⟩ := h₁
    exact store_own O hk B K ha R fun h' tk m' α' B₂ F => by
      obtain ⟨h₁, tk₁, rfl, H₁⟩ := K
      exact ⟨h', tk, _, m', α', rfl, B₂, F, h⟩) fun _ _ x => x.elim) hw

/-- x = y = e -/
theorem st_assign2 (O : c.Ok P k) {x y : Str} {px py pos : Pos} {e : Expr} {t : Tr} {Φ : Fl → Prop} (hx : Sto c x) (hy : Sto c y) (H : EvOK c σ e t) (h : Φ (.next ((y, .tree t) :: (x, .tree t) :: σ)))
    (hw : swappedStores [.Name x px, .Name y py] e c.env = pure none := by rfl) : StOK c σ (.Assign [.Name x px, .Name y py] e pos) Φ := fun s m α B =>
  wpAny_Assign_two (H.then B fun v s₁ K B₁ R => wpAny_assign_Name (store_tree O hx B₁ R fun h' tk m' B₂ F => wpAny_assign_Name (store_tree O hy B₂ (R.imp (fun b o hn e => F b o hn e)) fun h'' tk' m'' B₃ F' => by
    obtain ⟨h₁, tk₁, rfl, H₁⟩ := K
    exact ⟨h'', tk', _, m'', α, rfl, B₃, ((Fz.of_keep H₁).trans F).trans F', h⟩))) rfl hw

/-- x op= e -/
noncomputable def InpOK (c : Cx) (op : Operator) (a b t : Tr) : Prop := ∀ (s : Shared) N u v, RT s.heap N a u → RT s.heap N b v →
  wpAny (model c.prog c.w) c.A (inplaceOp op u v) (fun w s' => Kp s s' ∧ RT s'.heap N t w) (fun _ _ => False) s
theorem st_aug (O : c.Ok P k) {x : Str} {px pos : Pos} {op : Operator} {e : Expr} {a b t : Tr} {Φ : Fl → Prop} (hx : Sto c x) (ea : σ.lookup x = some (.tree a)) (H : EvOK c σ e b) (I : InpOK c op a b t) (h : Φ (.next ((x, .tree t) :: σ)))
    (hd' : (x == ("__classdict__" : Str)) = false := by decide) : StOK c σ (.AugAssign (.Name x px) op e pos) Φ := fun s m α B => by
  obtain ⟨u, X, R₀⟩ := B.val x _ ea
  refine wpAny_AugAssign_Name (loadName_of O B X ?_ hd')
  refine H.then B fun v s₁ K B₁ R => wpAny_mono (I s₁ _ u v (R₀.keep K.heap) R) (fun w s₂ h₂ => ?_) fun _ _ x => x.elim
  obtain ⟨K₂, R₂⟩ := h₂
  refine store_tree O hx (B₁.keeps K₂.heap) R₂ fun h' tk m' B₂ F => ?_
  obtain ⟨h₁, tk₁, rfl, H₁⟩ := K.trans' K₂
  exact ⟨h', tk, _, m', α, rfl, B₂, (Fz.of_keep H₁).trans F, h⟩
theorem inp_add {a b : Int} : InpOK c .Add (.int a) (.int b) (.int (a + b)) := fun s N u v ⟨t, e⟩ ⟨t', e'⟩ => by subst e e'; exact PySem.wpAny_iadd_int ⟨(Kp.rfl' s).tks _, _, rfl⟩
theorem inp_sub {a b : Int} : InpOK c .Sub (.int a) (.int b) (.int (a - b)) := fun s N u v ⟨t, e⟩ ⟨t', e'⟩ => by subst e e'; exact isub_int ⟨(Kp.rfl' s).tks _, _, rfl⟩

/-! flow -/
theorem st_return {e : Expr} {pos : Pos} {t : Tr} {Φ : Fl → Prop} (H : EvOK c σ e t) (h : Φ (.ret t)) : StOK c σ (.Return (some e) pos) Φ := fun s m α B =>
  wpAny_Return_some (H.then B fun v s₁ K B₁ R => by
    obtain ⟨h₁, tk₁, rfl, H₁⟩ := K
    exact ⟨h₁, tk₁, σ, m, α, rfl, B₁, Fz.of_keep H₁, t, R.weak fun b M => .inl M, h⟩)
theorem st_break {pos : Pos} {Φ : Fl → Prop} (h : Φ (.brk σ)) : StOK c σ (.Break pos) Φ := fun s m α B => wpAny_Break ⟨s.heap, s.toks, σ, m, α, rfl, B, Fz.of_keep fun _ _ e => e, h⟩

theorem st_if {test : Expr} {body orelse : List Stmt} {pos : Pos} {b : Bool} {Φ : Fl → Prop} (H : TsOK c σ test b) (h1 : b = true → ExOK c σ body Φ) (h2 : b = false → ExOK c σ orelse Φ) : StOK c σ (.If test body orelse pos) Φ := fun s m α B =>
  wpAny_If (H.then B fun s₁ K B₁ => by
    cases b with
    | true => rw [if_pos rfl]; exact wpAny_mono (h1 rfl s₁ m α B₁) (fun _ _ x => x.kp K) fun _ _ x => x
    | false => rw [if_neg (by simp)]; exact wpAny_mono (h2 rfl s₁ m α B₁) (fun _ _ x => x.kp K) fun _ _ x => x)

theorem st_try {body : List Stmt} {h₀ : ExceptHandler} {hs : List ExceptHandler} {pos : Pos} {Φ : Fl → Prop} (H : ExOK c σ body Φ) : StOK c σ (.Try body (h₀ :: hs) [] [] pos) Φ := fun s m α B => by
  refine wpAny_Try_except (wpAny_mono (H s m α B) (fun f s₁ x => ?_) fun _ _ x => x.elim)
  cases f with
  | next => exact wpAny_execs_nil x
  | _ => exact x

noncomputable def Lp (Φ : Fl → Prop) (J : Sg → Prop) : Fl → Prop
  | .next σ' => J σ'
  | .cont σ' => J σ'
  | .brk σ' => Φ (.next σ')
  | .ret t => Φ (.ret t)

theorem st_while {test : Expr} {body : List Stmt} {pos : Pos} {Φ : Fl → Prop} (J : Nat → Sg → Prop) (n : Nat) (hJ : J n σ)
    (turn : ∀ n σ', J n σ' → ∃ b, TsOK c σ' test b ∧ (b = true → ExOK c σ' body (Lp Φ fun σ'' => ∃ i, i < n ∧ J i σ'')) ∧ (b = false → Φ (.next σ'))) :
    StOK c σ (.While test body [] pos) Φ := fun s m α B => by
  refine wpAny_While (codeAny_whileLoop (fun n s' => ∃ h' tk σ' m' α', s' = { s with heap := h', toks := tk } ∧ Bd c σ' m' α' h' ∧ Fz c σ α s.heap σ' α' h' ∧ J n σ') ?_ n ⟨s.heap, s.toks, σ, m, α, rfl, B, Fz.of_keep fun _ _ e => e, hJ⟩)
  rintro n s' ⟨h', tk, σ', m', α', rfl, B', F, hJ'⟩
  obtain ⟨b, T, h1, h2⟩ := turn n σ' hJ'
  refine T.then (s := { s with heap := h', toks := tk }) B' fun s₁ K B₁ => ?_
  obtain ⟨h₁, tk₁, rfl, H₁⟩ := K
  cases b with
  | false =>
    rw [if_neg (by simp)]
    exact wpAny_execs_nil ⟨h₁, tk₁, σ', m', α', rfl, B₁, F.trans (Fz.of_keep H₁), h2 rfl⟩
  | true =>
    rw [if_pos rfl]
    refine wpAny_mono (h1 rfl _ m' α' B₁) (fun f s₂ x => ?_) fun _ _ x => x.elim
    obtain ⟨h₂, tk₂, σ₂, m₂, α₂, rfl, B₂, F₂, r⟩ := x
    have FF := (F.trans (Fz.of_keep H₁)).trans F₂
    cases f with
    | next => obtain ⟨i, hi, hj⟩ := r; exact ⟨i, hi, h₂, tk₂, σ₂, m₂, α₂, rfl, B₂, FF, hj⟩
    | cont => obtain ⟨i, hi, hj⟩ := r; exact ⟨i, hi, h₂, tk₂, σ₂, m₂, α₂, rfl, B₂, FF, hj⟩
    | brk => exact ⟨h₂, tk₂, σ₂, m₂, α₂, rfl, B₂, FF, r⟩
    | ret v => exact ⟨h₂, tk₂, σ₂, m₂, α₂, rfl, B₂, FF, r⟩
end
end TL
end
/-! ### TLR6 -/
section
open PySem PyProof.Rows
namespace TL
section
variable {c : Cx} {σ : Sg} {P : Pm} {k : Nat} {m : Str → Option Value} {α : Str → Addr}

/-- an iterator that will hand out ts; it lies at a new place -/
noncomputable def ItAt (c : Cx) (N : Addr → Prop) (s : Shared) (it : Value) (s₂ : Shared) (ts : List Tr) : Prop :=
  Kp s s₂ ∧ ∃ I fp p St vs, it = .ref I ∧ s.heap.get? I = none ∧ (∀ A' : Around, A'.handled = none → Walks c.prog c.w A' I fp [I] ts.length p St) ∧ St 0 s₂.heap ∧
    (∀ b ∈ fp, ¬ N b ∧ ∃ o, s₂.heap.get? b = some o) ∧ (∀ i h, St i h → ∃ o vs, h.get? I = some o ∧ o.data = .fields vs) ∧ RTs s₂.heap N ts vs ∧
    (∀ i v, p i v → ∃ t, ts[i]? = some t ∧ ∀ h N', RTs h N' ts vs → RT h N' t v)

theorem keeps_none {s s' : Shared} (K : Kp s s') {a : Addr} (h : s'.heap.get? a = none) : s.heap.get? a = none := by
  cases e : s.heap.get? a with
  | none => rfl
  | some o => rw [K.heap _ _ e] at h; cases h
theorem ItAt.kp {N : Addr → Prop} {s s₁ s₂ : Shared} {it : Value} {ts : List Tr} (K : Kp s s₁) (X : ItAt c N s₁ it s₂ ts) : ItAt c N s it s₂ ts := by
  obtain ⟨K', I, fp, p, St, vs, e, hI, r⟩ := X
  exact ⟨K.trans' K', I, fp, p, St, vs, e, keeps_none K hI, r⟩

theorem size_none (h : Heap) : h.get? h.objs.size = none := Heap.get?_none_of_le (Nat.le_refl _)
theorem push_kp (s : Shared) (o : Obj) : Kp s { s with heap := s.heap.push o } := ⟨_, s.toks, rfl, fun b x e => Heap.get?_push_of_some _ e⟩
theorem push_kp' (s : Shared) (o : Obj) (tk : Nat) : Kp s { s with heap := s.heap.push o, toks := tk } := ⟨_, tk, rfl, fun b x e => Heap.get?_push_of_some _ e⟩

section
variable {N : Addr → Prop} {s : Shared} {E : Value → Shared → Prop} (hN : ∀ b, N b → ∃ o, s.heap.get? b = some o)
include hN
theorem newNN {a : Addr} (ha : s.heap.get? a = none) : ¬ N a := fun M => by
  obtain ⟨o, e⟩ := hN a M
  rw [ha] at e; cases e

theorem it_list {v : Value} {ts : List Tr} (R : RT s.heap N (.list ts) v) : wpAny (model c.prog c.w) c.A (pyIter v) (fun it s₂ => ItAt c N s it s₂ ts) E s := by
  obtain ⟨a, vs, n, rfl, hna, hg, R⟩ := R
  have hl : s.heap.IsList a vs.toArray := ⟨_, hg, rfl, n, rfl⟩
  have hne : a ≠ s.heap.objs.size := Nat.ne_of_lt (Heap.lt_size hg)
  have hlen : vs.toArray.size = ts.length := by rw [List.size_toArray, R.length]
  refine wpAny_pyIter_list hl ⟨push_kp s _, s.heap.objs.size, [s.heap.objs.size, a], _, _, vs, rfl, size_none _, fun A' hA => hlen ▸ Walks.list hA s.heap.objs.size a hne vs.toArray, ?_, ?_, ?_, ?_, ?_⟩
  · exact ⟨⟨_, Heap.get?_push_size _ rfl, rfl, rfl⟩, hl.push _⟩
  · intro b hb
    simp only [List.mem_cons, List.not_mem_nil, or_false] at hb
    rcases hb with rfl | rfl
    · exact ⟨newNN hN (size_none _), _, Heap.get?_push_size _ rfl⟩
    · exact ⟨hna, _, Heap.get?_push_of_some _ hg⟩
  · rintro i h ⟨⟨o, ho, _, hd⟩, _⟩
    exact ⟨o, _, ho, hd⟩
  · exact R.keep fun b o e => Heap.get?_push_of_some _ e
  · intro i v hv
    have hi : i < ts.length := by rw [← hlen]; exact (Array.getElem?_eq_some_iff.mp hv).1
    refine ⟨ts[i], by simp [hi], fun h N' R' => ?_⟩
    obtain ⟨w, hw, r⟩ := R'.get (i := i) (t := ts[i]) (by simp [hi])
    have : w = v := by
      have hv' : vs[i]? = some v := by simpa using hv
      rw [hw] at hv'; exact Option.some.inj hv'
    exact this ▸ r

theorem it_tuple {v : Value} {ts : List Tr} (R : RT s.heap N (.tuple ts) v) : wpAny (model c.prog c.w) c.A (pyIter v) (fun it s₂ => ItAt c N s it s₂ ts) E s := by
  obtain ⟨a, vs, n, rfl, hna, hg, R⟩ := R
  have hl : s.heap.IsTuple a vs.toArray := ⟨_, hg, rfl, n, rfl⟩
  have hne : a ≠ s.heap.objs.size := Nat.ne_of_lt (Heap.lt_size hg)
  have hlen : vs.toArray.size = ts.length := by rw [List.size_toArray, R.length]
  refine wpAny_pyIter_tuple hl ⟨push_kp s _, s.heap.objs.size, [s.heap.objs.size, a], _, _, vs, rfl, size_none _, fun A' hA => hlen ▸ Walks.tuple hA s.heap.objs.size a hne vs.toArray, ?_, ?_, ?_, ?_, ?_⟩
  · exact ⟨⟨_, Heap.get?_push_size _ rfl, rfl, rfl⟩, ⟨_, Heap.get?_push_of_some _ hg, rfl, n, rfl⟩⟩
  · intro b hb
    simp only [List.mem_cons, List.not_mem_nil, or_false] at hb
    rcases hb with rfl | rfl
    · exact ⟨newNN hN (size_none _), _, Heap.get?_push_size _ rfl⟩
    · exact ⟨hna, _, Heap.get?_push_of_some _ hg⟩
  · rintro i h ⟨⟨o, ho, _, hd⟩, _⟩
    exact ⟨o, _, ho, hd⟩
  · exact R.keep fun b o e => Heap.get?_push_of_some _ e
  · intro i v hv
    have hi : i < ts.length := by rw [← hlen]; exact (Array.getElem?_eq_some_iff.mp hv).1
    refine ⟨ts[i], by simp [hi], fun h N' R' => ?_⟩
    obtain ⟨w, hw, r⟩ := R'.get (i := i) (t := ts[i]) (by simp [hi])
    have : w = v := by
      have hv' : vs[i]? = some v := by simpa using hv
      rw [hw] at hv'; exact Option.some.inj hv'
    exact this ▸ r

omit hN in
theorem flatRTs {β : Type} {h : Heap} {N : Addr → Prop} (f : β → Tr) (g : β → Value) (H : ∀ x, RT h N (f x) (g x)) : ∀ l : List β, RTs h N (l.map f) (l.map g)
  | [] => rfl
  | x :: l => ⟨_, _, rfl, H x, flatRTs f g H l⟩
end

/-- signs of a text -/
noncomputable def signs (l : List Nat) : List Tr := l.map fun n => .str ⟨#[n]⟩
noncomputable def intsT (l : List Int) : List Tr := l.map .int
noncomputable def rng (a b st : Int) (n : Nat) : List Int := (List.range n).map fun (i : Nat) => a + (i : Int) * st

section
variable {N : Addr → Prop} {s : Shared} {E : Value → Shared → Prop} (hN : ∀ b, N b → ∃ o, s.heap.get? b = some o)
include hN
theorem it_str {v : Value} {x : List Nat} (R : RT s.heap N (.str ⟨x.toArray⟩) v) : wpAny (model c.prog c.w) c.A (pyIter v) (fun it s₂ => ItAt c N s it s₂ (signs x)) E s := by
  obtain ⟨t, rfl⟩ := R
  have key : ∀ ty, (∀ A' : Around, A'.handled = none → Walks c.prog c.w A' s.heap.objs.size [s.heap.objs.size] [s.heap.objs.size] (signs x).length (SignAt ⟨x.toArray⟩) (fun i h => h.IsStrIter s.heap.objs.size ty ⟨x.toArray⟩ t i)) →
      ItAt c N s (.ref s.heap.objs.size) { s with heap := s.heap.push { cls := .type ty, data := .fields #[.str ⟨x.toArray⟩ t, .int 0 0] } } (signs x) := fun ty W => by
    refine ⟨push_kp s _, s.heap.objs.size, _, _, _, x.map fun n => .str ⟨#[n]⟩ 0, rfl, size_none _, W, ⟨_, Heap.get?_push_size _ rfl, rfl, rfl⟩, ?_, ?_, flatRTs (fun n => .str ⟨#[n]⟩) (fun n => .str ⟨#[n]⟩ 0) (fun n => ⟨0, rfl⟩) x, ?_⟩
    · intro b hb
      rw [List.mem_singleton] at hb; subst hb
      exact ⟨newNN hN (size_none _), _, Heap.get?_push_size _ rfl⟩
    · rintro i h ⟨o, ho, _, hd⟩
      exact ⟨o, _, ho, hd⟩
    · rintro i v ⟨n, u, hc, rfl⟩
      have hc' : x[i]? = some n := by simpa using hc
      exact ⟨.str ⟨#[n]⟩, by simp [signs, hc'], fun h N' _ => ⟨u, rfl⟩⟩
  have hl : (signs x).length = (⟨x.toArray⟩ : Str).cps.size := by simp [signs]
  cases ha : (⟨x.toArray⟩ : Str).cps.all (· < 128)
  · exact wpAny_pyIter_wide ha (key _ fun A' hA => hl ▸ Walks.strWide hA _ _ t)
  · exact wpAny_pyIter_ascii ha (key _ fun A' hA => hl ▸ Walks.strAscii hA _ _ t)

theorem it_bytes {v : Value} {x : List UInt8} (R : RT s.heap N (.bytes x.toArray) v) : wpAny (model c.prog c.w) c.A (pyIter v) (fun it s₂ => ItAt c N s it s₂ (intsT (x.map fun b => (b.toNat : Int)))) E s := by
  obtain ⟨t, rfl⟩ := R
  have hl : (intsT (x.map fun b => (b.toNat : Int))).length = x.toArray.size := by simp [intsT]
  refine W.KBw.pyIter_bytes ⟨push_kp s _, s.heap.objs.size, _, _, _, x.map fun b => .int (b.toNat : Int) 0, rfl, size_none _, fun A' hA => hl ▸ W.KBw.walks hA _ x.toArray t, ⟨_, Heap.get?_push_size _ rfl, rfl, rfl⟩, ?_, ?_, ?_, ?_⟩
  · intro b hb
    rw [List.mem_singleton] at hb; subst hb
    exact ⟨newNN hN (size_none _), _, Heap.get?_push_size _ rfl⟩
  · rintro i h ⟨o, ho, _, hd⟩
    exact ⟨o, _, ho, hd⟩
  · unfold intsT; rw [List.map_map]
    exact flatRTs (fun b : UInt8 => Tr.int (b.toNat : Int)) (fun b : UInt8 => Value.int (b.toNat : Int) 0) (fun n => ⟨0, rfl⟩) x
  · rintro i v ⟨n, u, hc, rfl⟩
    have hc' : x[i]? = some n := by simpa using hc
    exact ⟨.int (n.toNat : Int), by simp [intsT, hc'], fun h N' _ => ⟨u, rfl⟩⟩

theorem it_range {r : Addr} {a b st : Int} {n : Nat} {t u v : Tok} (hr : IsRange s.heap r a b st t u v) (hsmall : Builtin.Range.small a b st = true) (hn : Builtin.Range.rangeSize a b st = (n : Int)) :
    wpAny (model c.prog c.w) c.A (pyIter (.ref r)) (fun it s₂ => ItAt c N s it s₂ (intsT (rng a b st n))) E s := by
  have hl : (intsT (rng a b st n)).length = n := by simp [intsT, rng]
  refine wpAny_pyIter_range hr hsmall ⟨push_kp s _, s.heap.objs.size, [s.heap.objs.size], fun i v => i < n ∧ ∃ t, v = .int (a + i * st) t, fun i h => IsRangeIter h s.heap.objs.size (a + (i : Nat) * st) ((n : Int) - (i : Nat)) st, (rng a b st n).map fun i => .int i 0, rfl, size_none _, fun A' hA => hl.symm ▸ (Walks.range hA s.heap.objs.size a st n).bound, ?_, ?_, ?_, ?_, ?_⟩
  · show IsRangeIter _ _ _ _ _
    rw [hn]; simpa using Heap.get?_push_size s.heap (o := { cls := .type "range_iterator", data := .fields #[rawInt a, rawInt n, rawInt st] }) rfl
  · intro b hb
    rw [List.mem_singleton] at hb; subst hb
    exact ⟨newNN hN (size_none _), _, Heap.get?_push_size _ rfl⟩
  · intro i h ho
    exact ⟨_, _, ho, rfl⟩
  · exact flatRTs Tr.int (fun i => Value.int i 0) (fun n => ⟨0, rfl⟩) _
  · rintro i v ⟨hi, u, rfl⟩
    exact ⟨.int (a + i * st), by simp [intsT, rng, hi], fun h N' _ => ⟨u, rfl⟩⟩
end

/-- an expression whose iterator hands out ts -/
noncomputable def ItOK (c : Cx) (σ : Sg) (e : Expr) (ts : List Tr) : Prop := ∀ s m α, Bd c σ m α s.heap → ∀ E : Value → Shared → Prop,
  wpAny (model c.prog c.w) c.A (eval e c.env) (fun x s₁ => wpAny (model c.prog c.w) c.A (pyIter x) (fun it s₂ => ItAt c (Mut c σ α) s it s₂ ts) E s₁) E s

theorem ito_list {e : Expr} {ts : List Tr} (H : EvOK c σ e (.list ts)) : ItOK c σ e ts := fun s m α B E => H.then B fun v s₁ K B₁ R => wpAny_mono (it_list (fun b M => B₁.mutAt M) R) (fun it s₂ x => x.kp K) fun _ _ x => x
theorem ito_tuple {e : Expr} {ts : List Tr} (H : EvOK c σ e (.tuple ts)) : ItOK c σ e ts := fun s m α B E => H.then B fun v s₁ K B₁ R => wpAny_mono (it_tuple (fun b M => B₁.mutAt M) R) (fun it s₂ x => x.kp K) fun _ _ x => x
theorem ito_str {e : Expr} {x : List Nat} (H : EvOK c σ e (.str ⟨x.toArray⟩)) : ItOK c σ e (signs x) := fun s m α B E => H.then B fun v s₁ K B₁ R => wpAny_mono (it_str (fun b M => B₁.mutAt M) R) (fun it s₂ x => x.kp K) fun _ _ x => x
theorem ito_bytes {e : Expr} {x : List UInt8} (H : EvOK c σ e (.bytes x.toArray)) : ItOK c σ e (intsT (x.map fun b => (b.toNat : Int))) := fun s m α B E => H.then B fun v s₁ K B₁ R => wpAny_mono (it_bytes (fun b M => B₁.mutAt M) R) (fun it s₂ x => x.kp K) fun _ _ x => x

/-! for -/
theorem st_for (O : c.Ok P k) {x : Str} {px pos : Pos} {iter : Expr} {body : List Stmt} {ts : List Tr} {Φ : Fl → Prop} (J : Nat → Sg → Prop) (hx : Sto c x) (H : ItOK c σ iter ts) (h0 : J 0 σ)
    (turn : ∀ i t σ', ts[i]? = some t → J i σ' → ExOK c ((x, .tree t) :: σ') body (Lp Φ (J (i + 1)))) (done : ∀ σ', J ts.length σ' → Φ (.next σ'))
    (hs : ∀ x, foldedSetIterable iter c.env x = pure x := by intro _; rfl) : StOK c σ (.For (.Name x px) iter body [] pos) Φ := fun s m α B => by
  refine wpAny_For (wpAny_mono (H s m α B _) (fun xv s₁ h₁ => wpAny_mono h₁ (fun it s₂ h₂ => ?_) fun _ _ e => e) fun _ _ e => e) hs
  obtain ⟨K, I, fp, p, St, vs, rfl, hI, W, hst, hfp, hnf, R, hp⟩ := h₂
  replace W := W c.A O.hh
  obtain ⟨h₂, tk₂, rfl, H₂⟩ := K
  refine codeAny_forLoop (fun n s' => ∃ i h' tk σ' m' α', n = ts.length + 1 - i ∧ i ≤ ts.length ∧ s' = { s with heap := h', toks := tk } ∧ Bd c σ' m' α' h' ∧ Fz c σ α s.heap σ' α' h' ∧ J i σ' ∧ St i h' ∧
    (∀ b ∈ fp, ¬ Mut c σ' α' b ∧ ∃ o, h'.get? b = some o) ∧ RTs h' (Mut c σ' α') ts vs) ?_ (ts.length + 1)
    ⟨0, h₂, tk₂, σ, m, α, rfl, Nat.zero_le _, rfl, B.keeps H₂, Fz.of_keep H₂, h0, hst, hfp, R⟩
  rintro n s' ⟨i, h', tk, σ', m', α', rfl, hi, rfl, B', F, hJ, hst', hfp', R'⟩
  obtain ⟨oI, vI, hoI, hdI⟩ := hnf i h' hst'
  -- a step of the iterator
  have step : ∀ h₁, (∀ b o, b ∉ [I] → h'.get? b = some o → h₁.get? b = some o) → Bd c σ' m' α' h₁ ∧ Fz c σ α s.heap σ' α' h₁ ∧ RTs h₁ (Mut c σ' α') ts vs := fun h₁ hk => by
    have ne : ∀ b o, Dt o → h'.get? b = some o → b ≠ I := fun b o d e z => by
      subst z; rw [hoI] at e; cases e; exact d _ hdI
    have keepD : ∀ b o, Dt o → h'.get? b = some o → h₁.get? b = some o := fun b o d e => hk b o (by simpa using ne b o d e) e
    refine ⟨B'.keepD keepD (fun b o e => ?_) fun b M => ?_, fun b o hn e => ?_, RTs.impD (fun b o d hn e => ⟨keepD b o d e, hn⟩) _ _ R'⟩
    · have hb : b ≠ I := fun z => by
        subst z
        have := B.keep _ _ e
        rw [hI] at this; cases this
      exact hk b o (by simpa using hb) (B'.keep _ _ e)
    · obtain ⟨o₀, e₀⟩ := B.muAt b M
      obtain ⟨o, e⟩ := B'.muAt b M
      exact ⟨o, hk b o (by simpa using someNe e₀ hI) e⟩
    · have hb : b ≠ I := someNe e hI
      obtain ⟨e', n'⟩ := F b o hn e
      exact ⟨hk b o (by simpa using hb) e', n'⟩
  by_cases hlt : i < ts.length
  · refine W.item i _ _ _ hlt hst' fun v h₁ tk₁ hP hst₁ hk₁ => ?_
    obtain ⟨oI₁, _, hoI₁, _⟩ := hnf _ _ hst₁
    obtain ⟨B₁, F₁, R₁⟩ := step h₁ hk₁
    obtain ⟨t, ht, hv⟩ := hp i v hP
    have hfp₁ : ∀ b ∈ fp, ¬ Mut c σ' α' b ∧ ∃ o, h₁.get? b = some o := fun b hb => ⟨(hfp' b hb).1, by
      by_cases q : b = I
      · subst q; exact ⟨_, hoI₁⟩
      · obtain ⟨o, e⟩ := (hfp' b hb).2
        exact ⟨o, hk₁ b o (by simpa using q) e⟩⟩
    refine wpAny_assign_Name (store_tree O hx (s := { s with heap := h₁, toks := tk₁ }) B₁ (hv _ _ R₁) fun h₃ tk₃ m₃ B₃ F₃ => ?_)
    refine wpAny_mono (turn i t σ' ht hJ _ m₃ α' B₃) (fun f s₄ x => ?_) fun _ _ x => x.elim
    obtain ⟨h₄, tk₄, σ₄, m₄, α₄, rfl, B₄, F₄, r⟩ := x
    have F₃₄ : Fz c σ' α' h₁ σ₄ α₄ h₄ := F₃.trans F₄
    have FF := F₁.trans F₃₄
    have hst₄ : St (i + 1) h₄ := W.frame _ _ _ hst₁ fun b hb o e => (F₃₄ b o (hfp₁ b hb).1 e).1
    have hfp₄ : ∀ b ∈ fp, ¬ Mut c σ₄ α₄ b ∧ ∃ o, h₄.get? b = some o := fun b hb => by
      obtain ⟨hn, o, e⟩ := hfp₁ b hb
      exact ⟨(F₃₄ b o hn e).2, o, (F₃₄ b o hn e).1⟩
    have R₄ : RTs h₄ (Mut c σ₄ α₄) ts vs := RTs.imp F₃₄ _ _ R₁
    cases f with
    | next => exact ⟨ts.length + 1 - (i + 1), by omega, i + 1, h₄, tk₄, σ₄, m₄, α₄, rfl, hlt, rfl, B₄, FF, r, hst₄, hfp₄, R₄⟩
    | cont => exact ⟨ts.length + 1 - (i + 1), by omega, i + 1, h₄, tk₄, σ₄, m₄, α₄, rfl, hlt, rfl, B₄, FF, r, hst₄, hfp₄, R₄⟩
    | brk => exact ⟨h₄, tk₄, σ₄, m₄, α₄, rfl, B₄, FF, r⟩
    | ret v => exact ⟨h₄, tk₄, σ₄, m₄, α₄, rfl, B₄, FF, r⟩
  · have hin : i = ts.length := by omega
    subst hin
    refine W.done _ _ _ hst' fun h₁ tk₁ hk₁ => wpAny_execs_nil ?_
    obtain ⟨B₁, F₁, R₁⟩ := step h₁ hk₁
    exact ⟨h₁, tk₁, σ', m', α', rfl, B₁, F₁, done σ' hJ⟩
end
end TL
end
/-! ### TLR7 -/
section
open PySem PyProof.Rows
namespace TL

/-- what a def of the text hands back -/
noncomputable def FnOK (P : Pm) (k : Nat) (name : Str) (args : List Tr) (kw : List (Str × Value)) (r : Tr) : Prop :=
  ∀ (A : Around) (s : Shared) (N : Addr → Prop) (vs : List Value) (a : Addr), P.mg name = some (.ref a) → Wd P s.heap → A.handled = none → A.depth + k < recursionLimit → A.units + 8 * k + 8 < cLine →
    (∀ b, N b → ∃ o, s.heap.get? b = some o) → RTs s.heap N args vs →
    codeAny (model P.prog P.w) A (.call (.ref a) ⟨vs, kw⟩) (fun res s' => ∃ v, res = .ok (.ret v) ∧ Kp s s' ∧ RT s'.heap N r v) s

section
variable {c : Cx} {σ : Sg} {P : Pm} {k : Nat} {m : Str → Option Value} {α : Str → Addr}

noncomputable def ArgsOK (c : Cx) (σ : Sg) (pos : Pos) (es : List Expr) (ts : List Tr) : Prop := ∀ s m α, Bd c σ m α s.heap →
  wpAny (model c.prog c.w) c.A (spliced (backTo pos (starEach es c.env))) (fun vs s' => Kp s s' ∧ RTs s'.heap (Mut c σ α) ts vs) (fun _ _ => False) s
theorem args_nil' {pos : Pos} : ArgsOK c σ pos [] [] := fun s m α B => args_nil ⟨Kp.rfl' s, rfl⟩
theorem args_cons' {pos : Pos} {e : Expr} {es : List Expr} {t : Tr} {ts : List Tr} (H : EvOK c σ e t) (H' : ArgsOK c σ pos es ts) (he : starEach (e :: es) c.env = (false, eval e c.env) :: starEach es c.env := by rfl) :
    ArgsOK c σ pos (e :: es) (t :: ts) := fun s m α B =>
  args_cons (H.then B fun v s₁ K B₁ R => wpAny_mono (H' s₁ m α B₁) (fun vs s₂ h => ⟨K.trans' h.1, v, vs, rfl, R.keep h.1.heap, h.2⟩) fun _ _ x => x) he

/-- a call of a built-in, or of a type -/
noncomputable def CallOK (c : Cx) (f : Value) (ts : List Tr) (r : Tr) : Prop := ∀ (s : Shared) (N : Addr → Prop) vs, (∀ b, N b → ∃ o, s.heap.get? b = some o) → RTs s.heap N ts vs →
  wpAny (model c.prog c.w) c.A (call f vs) (fun v s' => Kp s s' ∧ RT s'.heap N r v) (fun _ _ => False) s
noncomputable def CallNew (c : Cx) (f : Value) (ts : List Tr) (r : Tr) : Prop := ∀ (s : Shared) (N : Addr → Prop) vs, (∀ b, N b → ∃ o, s.heap.get? b = some o) → RTs s.heap N ts vs →
  wpAny (model c.prog c.w) c.A (call f vs) (fun v s' => Kp s s' ∧ ∃ a, v = .ref a ∧ s.heap.get? a = none ∧ OR s'.heap (fun b => N b ∨ b = a) a r) (fun _ _ => False) s

/-- the name is no one's but the interpreter's -/
structure Blt (c : Cx) (P : Pm) (x : Str) (v : Value) : Prop where
  kind : c.env.kindOf x = some .globalImplicit
  free : P.mg x = none
  boot : bootBuiltins x = some v
  notName : x ≠ "__name__"
  notDebug : (x == ("__debug__" : Str)) = false

theorem ev_call_builtin (O : c.Ok P k) {f : Str} {np pos : Pos} {e : Expr} {es : List Expr} {id : String} {ts : List Tr} {r : Tr} (b : Blt c P f (.builtin id)) (HA : ArgsOK c σ pos (e :: es) ts) (H : CallOK c (.builtin id) ts r)
    (he : starEach (e :: es) c.env = (false, eval e c.env) :: starEach es c.env := by rfl) (hp : (backTo pos (starEach es c.env)).any (·.1) = false := by rfl) : EvOK c σ (.Call (.Name f np) (e :: es) [] pos) r := fun s m α B =>
  wpAny_Call_ofName (name_builtin O B b.kind b.free b.boot (callWith_builtin1 (wpAny_mono (HA s m α B) (fun vs s₁ h => wpAny_mono (H s₁ _ vs (fun b M => (B.keeps h.1.heap).mutAt M) h.2) (fun v s₂ h₂ => ⟨h.1.trans' h₂.1, h₂.2⟩) fun _ _ x => x) fun _ _ x => x) he hp) b.notName b.notDebug)
theorem ev_call_type (O : c.Ok P k) {f : Str} {np pos : Pos} {e : Expr} {es : List Expr} {T : String} {ts : List Tr} {r : Tr} (b : Blt c P f (.type T)) (HA : ArgsOK c σ pos (e :: es) ts) (H : CallOK c (.type T) ts r)
    (he : starEach (e :: es) c.env = (false, eval e c.env) :: starEach es c.env := by rfl) (hp : (backTo pos (starEach es c.env)).any (·.1) = false := by rfl) : EvOK c σ (.Call (.Name f np) (e :: es) [] pos) r := fun s m α B =>
  wpAny_Call_ofName (name_builtin O B b.kind b.free b.boot (callWith_type1 (wpAny_mono (HA s m α B) (fun vs s₁ h => wpAny_mono (H s₁ _ vs (fun b M => (B.keeps h.1.heap).mutAt M) h.2) (fun v s₂ h₂ => ⟨h.1.trans' h₂.1, h₂.2⟩) fun _ _ x => x) fun _ _ x => x) he hp) b.notName b.notDebug)
theorem ev_call (O : c.Ok P k) {d : Df} (hd : d ∈ P.defs) {np pos : Pos} {e : Expr} {es : List Expr} {ts : List Tr} {r : Tr} (hk : c.env.kindOf d.name = some .globalImplicit) (HA : ArgsOK c σ pos (e :: es) ts) (H : FnOK P k d.name ts [] r)
    (hdb : (d.name == ("__debug__" : Str)) = false := by decide) (he : starEach (e :: es) c.env = (false, eval e c.env) :: starEach es c.env := by rfl) : EvOK c σ (.Call (.Name d.name np) (e :: es) [] pos) r := fun s m α B => by
  obtain ⟨a, dV, kV, cdv, D⟩ := (O.globs B).defs d hd
  obtain ⟨oc, od, osl, doc, pm, an, ct, ho⟩ := D.obj
  refine wpAny_Call_ofName (name_global O B hk D.named (callWith_def (o := ⟨oc, od, .func (W.fnOf d.name d.name d.params d.body d.scope dV kV doc pm an cdv ct), osl⟩) rfl (wpAny_mono (HA s m α B) (fun vs s₁ h => ?_) fun _ _ x => x.elim) he) hdb)
  refine ⟨h.1.heap _ _ ho, wpAny_call ?_⟩
  have B₁ := B.keeps h.1.heap
  have HH := H c.A s₁ (Mut c σ α) vs a D.named (O.globs B₁) O.hh O.depth O.units (fun b M => B₁.mutAt M) h.2
  rw [← O.prog, ← O.w] at HH
  refine codeAny_mono HH fun res s' h' => ?_
  obtain ⟨v, rfl, K, R⟩ := h'
  exact ⟨h.1.trans' K, R⟩

/-! entering a def -/
noncomputable def fenv (d : Df) (L a : Addr) (cdv : Value) (cells : List (Str × Addr)) : Env :=
  { scope := d.scope, locals := L, globals := mainGlobals, cells := cells, qual := d.name ++ ".<locals>.", func := some a, code := cdv, frame := some L, builtins := builtinsNs }

noncomputable def BindsR (s : Shared) (fd : FuncData) (args : Args) (X : Shared → List (Str × Value) → Prop) : Prop := ∀ (M : Model) (A : Around) (E : Value → Shared → Prop) (Q : List (Str × Value) → Shared → Prop),
  (∀ s₁ binds, Kp s s₁ → X s₁ binds → Q binds s₁) → wpAny M A (bindArgs fd args) Q E s
theorem BindsR.of_eq {s : Shared} {fd : FuncData} {args : Args} {binds : List (Str × Value)} {X : Shared → List (Str × Value) → Prop} (h : bindArgs fd args = pure binds) (hx : X s binds) : BindsR s fd args X :=
  fun _ _ _ _ hq => h ▸ wpAny_pure (hq s binds (Kp.rfl' s) hx)

theorem bindL_get {kindOf : Str → Option NameKind} : ∀ {binds : List (Str × Value)} {m : Str → Option Value}, (∀ x ∈ binds, kindOf x.1 = some .local) → (binds.map (·.1)).Nodup →
    ∀ y, bindL kindOf binds m y = (match binds.lookup y with | some v => some v | none => m y)
  | [], m, _, _, y => rfl
  | (n, v) :: r, m, hl, hd, y => by
    unfold bindL
    rw [if_pos (hl (n, v) (by simp))]
    rw [List.map_cons, List.nodup_cons] at hd
    rw [bindL_get (fun x hx => hl x (by simp [hx])) hd.2 y, List.lookup_cons]
    by_cases q : y = n
    · subst q
      have : r.lookup y = none := by
        rw [List.lookup_eq_none_iff]
        intro p hp
        have : p.1 ≠ y := fun z => hd.1 (z ▸ List.mem_map_of_mem (f := (·.1)) hp)
        simpa using fun z => this z.symm
      simp [this]
    · have : (y == n) = false := by simpa using q
      simp [this, q]

theorem lookup_zip {names : List Str} {h : Heap} {N : Addr → Prop} : ∀ {ts : List Tr} {binds : List (Str × Value)}, binds.map (·.1) = names → RTs h N ts (binds.map (·.2)) → ∀ x lv, (names.zip (ts.map LV.tree)).lookup x = some lv →
    ∃ t v, lv = .tree t ∧ binds.lookup x = some v ∧ RT h N t v := by
  intro ts binds e R x lv hl
  subst e
  induction binds generalizing ts with
  | nil => simp at hl
  | cons p r ih =>
    cases ts with
    | nil => simp at hl
    | cons t ts =>
      obtain ⟨v, vs, e, R₁, R₂⟩ := R
      simp only [List.map_cons, List.cons.injEq] at e
      obtain ⟨p1, p2⟩ := p
      simp only [List.map_cons, List.zip_cons_cons, List.lookup_cons] at hl ⊢
      cases q : x == p1 with
      | true => rw [q] at hl; cases hl; exact ⟨t, p2, rfl, rfl, by have := e.1; simp only at this; rw [this]; exact R₁⟩
      | false => rw [q] at hl; exact ih (e.2 ▸ R₂) hl

theorem cells_fresh {n : Nat} : ∀ {names : List (Str × NameKind)} {k : Nat} {acc : List (Str × Addr)}, n ≤ k → (∀ p ∈ acc, n ≤ p.2) → ∀ p ∈ cellsFrom k names acc, n ≤ p.2
  | [], k, acc, hk, ha, p, hp => ha p hp
  | (x, kd) :: r, k, acc, hk, ha, p, hp => by
    unfold cellsFrom at hp
    split at hp
    · exact cells_fresh (Nat.le_succ_of_le hk) (fun q hq => by rcases List.mem_cons.mp hq with rfl | hq; exact hk; exact ha q hq) p hp
    · exact cells_fresh hk ha p hp

theorem fn_intro {d : Df} (hd : d ∈ P.defs) {names : List Str} {args args' : List Tr} {kw : List (Str × Value)} {r : Tr} (hnd : names.Nodup) (hloc : ∀ x ∈ names, d.scope.names.lookup x = some .local)
    (hk : d.scope.kind = .function) (hco : d.scope.isCoroutine = false) (hgen : d.scope.isGenerator = false)
    (hbind : ∀ s a dV kV cdv doc pm an ct N vs, DefAt P s.heap d a dV kV cdv → (∀ b, N b → ∃ o, s.heap.get? b = some o) → RTs s.heap N args vs →
      BindsR s (W.fnOf d.name d.name d.params d.body d.scope dV kV doc pm an cdv ct) ⟨vs, kw⟩ (fun s₁ binds => binds.map (·.1) = names ∧ RTs s₁.heap N args' (binds.map (·.2))))
    (H : ∀ A L a cdv cells s N, Cx.Ok ⟨P.prog, P.w, A, fenv d L a cdv cells, s, N⟩ P k → (∀ x, d.scope.names.lookup x = some .cell → ∃ a', Cx.ownCell ⟨P.prog, P.w, A, fenv d L a cdv cells, s, N⟩ x a') →
      ExOK ⟨P.prog, P.w, A, fenv d L a cdv cells, s, N⟩ (names.zip (args'.map LV.tree)) d.body (fun f => f = .ret r)) :
    FnOK P (k + 1) d.name args kw r := fun A s N vs a hn Wh hh hdep hun hN R => by
  obtain ⟨a', dV, kV, cdv, D⟩ := Wh.defs d hd
  have : a' = a := by have := D.named; rw [hn] at this; cases this; rfl
  subst this
  obtain ⟨oc, od, osl, doc, pm, an, ct, ho⟩ := D.obj
  refine codeAny_call_function (fd := W.fnOf d.name d.name d.params d.body d.scope dV kV doc pm an cdv ct) (body := d.body) (by (first | lia | omega)) ho rfl hco hgen rfl D.code ?_
  refine hbind s a' dV kV cdv doc pm an ct N vs D hN R _ _ _ _ fun s₁ binds K ⟨hnm, R₁⟩ => ?_
  have hb : ∀ x ∈ binds, d.scope.names.lookup x.1 = some .local := fun x hx => hloc x.1 (hnm ▸ List.mem_map_of_mem hx)
  refine wpAny_newFunctionEnv_cells hk (fun x hx => .inl (hb x hx)) fun env he s₂ X => ?_
  have he' : env = fenv d s₁.heap.objs.size a' cdv (cellsFrom (s₁.heap.objs.size + 1) d.scope.names []) := he
  subst he'
  have hkeep : ∀ b o, s.heap.get? b = some o → s₂.heap.get? b = some o := fun b o e => X.toInCall.keep b o (K.heap b o e)
  refine ⟨Wh.lim.keeps hkeep, codeAny_func ?_⟩
  have none_of : ∀ b, s₁.heap.objs.size ≤ b → s.heap.get? b = none := fun b hb' => keeps_none K (Heap.get?_none_of_le hb')
  have hN₂ : ∀ b, N b → ∃ o, s₂.heap.get? b = some o := fun b M => let ⟨o, e⟩ := hN b M; ⟨o, hkeep b o e⟩
  have ok : Cx.Ok ⟨P.prog, P.w, A.deeper (fenv d s₁.heap.objs.size a' cdv (cellsFrom (s₁.heap.objs.size + 1) d.scope.names [])), fenv d s₁.heap.objs.size a' cdv (cellsFrom (s₁.heap.objs.size + 1) d.scope.names []), s, N⟩ P k :=
    ⟨rfl, rfl, hk, rfl, rfl, Wh, hh, by show A.depth + 1 + k < _; (first | lia | omega), by show A.units + 3 + 8 * k + 8 < _; (first | lia | omega)⟩
  have cellA : ∀ n c', (cellsFrom (s₁.heap.objs.size + 1) d.scope.names []).lookup n = some c' → s₁.heap.objs.size + 1 ≤ c' := fun n c' e => cells_fresh (Nat.le_refl _) (fun _ h => by cases h) _ (mem_of_lookup e)
  have Bd₀ : Bd ⟨P.prog, P.w, A.deeper (fenv d s₁.heap.objs.size a' cdv (cellsFrom (s₁.heap.objs.size + 1) d.scope.names [])), fenv d s₁.heap.objs.size a' cdv (cellsFrom (s₁.heap.objs.size + 1) d.scope.names []), s, N⟩
      (names.zip (args'.map LV.tree)) (bindL (fenv d s₁.heap.objs.size a' cdv (cellsFrom (s₁.heap.objs.size + 1) d.scope.names [])).kindOf binds fun _ => none) (fun _ => 0) s₂.heap := by
    refine ⟨X.toInCall.ns, none_of _ (Nat.le_refl _), hkeep, hN₂, fun n c' e => ⟨?_, _, X.cell n c' e.1⟩, fun n n' c' e e' => name_of_addr X.apart (mem_of_lookup e.1) (mem_of_lookup e'.1), fun x lv e => ?_, fun x t e => ?_⟩
    · exact Nat.ne_of_gt (cellA n c' e.1)
    · obtain ⟨t, v, rfl, hl, r⟩ := lookup_zip hnm R₁ x lv e
      have hx : x ∈ names := by
        rw [← hnm]
        exact List.mem_map_of_mem (f := (·.1)) (mem_of_lookup hl)
      refine ⟨v, .inl ⟨hloc x hx, ?_⟩, ?_⟩
      · show bindL _ binds (fun _ => none) x = some v
        rw [bindL_get hb (hnm ▸ hnd) x, hl]
      · refine RT.imp (fun b o hn' e' => ⟨X.toInCall.keep b o e', ?_⟩) t v r
        rintro (M | M | ⟨n, M⟩ | ⟨y, t', M, _⟩)
        · exact hn' M
        · have M : b = s₁.heap.objs.size := M
          exact someNe e' (size_none _) M
        · exact someNe e' (Heap.get?_none_of_le (Nat.le_of_succ_le (cellA n b M.1))) rfl
        · obtain ⟨_, _, q, _⟩ := lookup_zip hnm R₁ _ _ M
          cases q
    · obtain ⟨_, _, q, _⟩ := lookup_zip hnm R₁ _ _ e
      cases q
  refine wpAny_mono (H _ _ _ _ _ s N ok (fun x hx => ?_) s₂ _ _ Bd₀) (fun f s₃ h => ?_) fun _ _ x => x.elim
  · obtain ⟨c', hc'⟩ := Option.isSome_iff_exists.mp (W.cellsFrom_some d.scope.names (s₁.heap.objs.size + 1) [] (x := x) (.inl hx))
    exact ⟨c', hc', none_of _ (Nat.le_of_succ_le (cellA _ _ hc'))⟩
  · obtain ⟨h', tk', σ', m', α', rfl, B', F, r'⟩ := h
    cases f with
    | ret v =>
      obtain ⟨t, rt, q⟩ := r'
      cases q
      refine ⟨v, rfl, ?_, rt⟩
      obtain ⟨h₂, tk₂, e₂⟩ := X.toInCall.same
      obtain ⟨h₁, tk₁, e₁, _⟩ := K
      refine ⟨h', tk', ?_, B'.keep⟩
      rw [e₂, e₁]
    | next => cases r'
    | brk => cases r'
    | cont => cases r'
end
end TL
end
/-! ### TLR8 -/
section
open PySem PyProof.Rows
namespace TL
section
variable {c : Cx} {σ : Sg} {P : Pm} {k : Nat} {m : Str → Option Value} {α : Str → Addr}

/-! methods of texts -/
noncomputable def MethOf (x : Tr) (name : Str) (id : String) : Prop := ∀ {M : Model} {A : Around} {E : Value → Shared → Prop} {s : Shared} {N : Addr → Prop} {v : Value} {pl : Sem Bool} {Q : Value × List Value → Shared → Prop}, RT s.heap N x v →
  Q (.builtin id, [v]) s → wpAny M A (getMethod v name pl) Q E s
theorem m_lower {x : Str} : MethOf (.str x) "lower" "str.lower" := fun ⟨t, e⟩ h => by subst e; exact PySem.GM.lower h
theorem m_startswith {x : Str} : MethOf (.str x) "startswith" "str.startswith" := fun ⟨t, e⟩ h => by subst e; exact PySem.GM.startswith h
theorem m_endswith {x : Str} : MethOf (.str x) "endswith" "str.endswith" := fun ⟨t, e⟩ h => by subst e; exact PySem.GM.endswith h
theorem m_split {x : Str} : MethOf (.str x) "split" "str.split" := fun ⟨t, e⟩ h => by subst e; exact PySem.GM.split h
theorem m_join {x : Str} : MethOf (.str x) "join" "str.join" := fun ⟨t, e⟩ h => by subst e; exact PySem.GM.join h

theorem ev_meth0 {o : Expr} {name : Str} {id : String} {apos pos : Pos} {a r : Tr} {pl : Sem Bool} (H : EvOK c σ o a) (hm : MethOf a name id) (HC : CallOK c (.builtin id) [a] r)
    (he : eval (.Call (.Attribute o name apos) [] [] pos) c.env = (do
      let ov ← eval o c.env
      standAt apos.atName
      let (f, first) ← holding [ov] (getMethod ov name pl)
      callWith pos f first (backTo pos (starEach [] c.env)) []) := by rfl) : EvOK c σ (.Call (.Attribute o name apos) [] [] pos) r := fun s m α B =>
  MethodCall_ (pl := pl) (H.then B fun v s₁ K₁ B₁ R₁ => hm R₁ (callWith_method0 (wpAny_mono (HC s₁ _ [v] (fun b M => B₁.mutAt M) ⟨v, [], rfl, R₁, rfl⟩) (fun w s₂ h => ⟨K₁.trans' h.1, h.2⟩) fun _ _ x => x.elim))) he
theorem ev_meth {o e : Expr} {es : List Expr} {name : Str} {id : String} {apos pos : Pos} {a r : Tr} {ts : List Tr} {pl : Sem Bool} (H : EvOK c σ o a) (hm : MethOf a name id) (HA : ArgsOK c σ pos (e :: es) ts) (HC : CallOK c (.builtin id) (a :: ts) r)
    (he : eval (.Call (.Attribute o name apos) (e :: es) [] pos) c.env = (do
      let ov ← eval o c.env
      standAt apos.atName
      let (f, first) ← holding [ov] (getMethod ov name pl)
      callWith pos f first (backTo pos (starEach (e :: es) c.env)) []) := by rfl)
    (he' : starEach (e :: es) c.env = (false, eval e c.env) :: starEach es c.env := by rfl) (hp : (backTo pos (starEach es c.env)).any (·.1) = false := by rfl) : EvOK c σ (.Call (.Attribute o name apos) (e :: es) [] pos) r := fun s m α B =>
  MethodCall_ (pl := pl) (H.then B fun v s₁ K₁ B₁ R₁ => hm R₁ (callWith_method1 (wpAny_mono (HA s₁ m α B₁) (fun vs s₂ h₂ => wpAny_mono (HC s₂ _ (v :: vs) (fun b M => (B₁.keeps h₂.1.heap).mutAt M) ⟨v, vs, rfl, R₁.keep h₂.1.heap, h₂.2⟩)
    (fun w s₃ h => ⟨(K₁.trans' h₂.1).trans' h.1, h.2⟩) fun _ _ x => x.elim) fun _ _ x => x.elim) he' hp)) he
theorem new_meth {o e : Expr} {es : List Expr} {name : Str} {id : String} {apos pos : Pos} {a r : Tr} {ts : List Tr} {pl : Sem Bool} (H : EvOK c σ o a) (hm : MethOf a name id) (HA : ArgsOK c σ pos (e :: es) ts) (HC : CallNew c (.builtin id) (a :: ts) r)
    (he : eval (.Call (.Attribute o name apos) (e :: es) [] pos) c.env = (do
      let ov ← eval o c.env
      standAt apos.atName
      let (f, first) ← holding [ov] (getMethod ov name pl)
      callWith pos f first (backTo pos (starEach (e :: es) c.env)) []) := by rfl)
    (he' : starEach (e :: es) c.env = (false, eval e c.env) :: starEach es c.env := by rfl) (hp : (backTo pos (starEach es c.env)).any (·.1) = false := by rfl) : EvNew c σ (.Call (.Attribute o name apos) (e :: es) [] pos) r := fun s m α B =>
  MethodCall_ (pl := pl) (H.then B fun v s₁ K₁ B₁ R₁ => hm R₁ (callWith_method1 (wpAny_mono (HA s₁ m α B₁) (fun vs s₂ h₂ => wpAny_mono (HC s₂ _ (v :: vs) (fun b M => (B₁.keeps h₂.1.heap).mutAt M) ⟨v, vs, rfl, R₁.keep h₂.1.heap, h₂.2⟩)
    (fun w s₃ h => by
      obtain ⟨K₃, a, rfl, ha, R⟩ := h
      exact ⟨(K₁.trans' h₂.1).trans' K₃, a, rfl, keeps_none (K₁.trans' h₂.1) ha, R⟩) fun _ _ x => x.elim) fun _ _ x => x.elim) he' hp)) he

theorem c_lower {x : Str} (hx : x.length ≤ 5592405) : CallOK c (.builtin "str.lower") [.str x] (.str (Txt.lower x)) := fun s N vs hN R₀ => by
  obtain ⟨v, r, e, ⟨t, e1⟩, e2⟩ := R₀
  subst e; have e2 : r = [] := e2; subst e1 e2
  exact SCL.lower hx fun _ => ⟨(Kp.rfl' s).tks _, _, rfl⟩
theorem c_startswith {x y : Str} : CallOK c (.builtin "str.startswith") [.str x, .str y] (.bool (Txt.startswith x y)) := fun s N vs hN R₀ => by
  obtain ⟨v, r, e, ⟨t, e1⟩, v2, r2, e2, ⟨t2, e3⟩, e4⟩ := R₀
  subst e; have e4 : r2 = [] := e4; subst e1 e2 e3 e4
  exact SC.startswith ⟨Kp.rfl' s, rfl⟩
theorem c_endswith {x y : Str} : CallOK c (.builtin "str.endswith") [.str x, .str y] (.bool (Txt.endswith x y)) := fun s N vs hN R₀ => by
  obtain ⟨v, r, e, ⟨t, e1⟩, v2, r2, e2, ⟨t2, e3⟩, e4⟩ := R₀
  subst e; have e4 : r2 = [] := e4; subst e1 e2 e3 e4
  exact SC.endswith ⟨Kp.rfl' s, rfl⟩

/-! len, min, max -/
theorem c_len_str {x : Str} (hx : x.length < 2 ^ 62) : CallOK c (.builtin "len") [.str x] (.int x.length) := fun s N vs hN R₀ => by
  obtain ⟨v, r, e, ⟨t, e1⟩, e2⟩ := R₀
  subst e; have e2 : r = [] := e2; subst e1 e2
  have h0 : ((x.length : Nat) : Int) < 2 ^ 62 := by exact_mod_cast hx
  exact PySem.P.len_str (by (first | lia | omega)) ⟨(Kp.rfl' s).tks _, _, rfl⟩
theorem c_len_list {ts : List Tr} (hx : ts.length < 2 ^ 62) : CallOK c (.builtin "len") [.list ts] (.int ts.length) := fun s N vs hN R₀ => by
  obtain ⟨v, r, e, ⟨a, ws, n, e1, _, hg, R⟩, e2⟩ := R₀
  subst e; have e2 : r = [] := e2; subst e1 e2
  have h0 : ((ts.length : Nat) : Int) < 2 ^ 62 := by exact_mod_cast hx
  refine Calls.call_len_list (items := ws.toArray) ⟨_, hg, rfl, n, rfl⟩ (by rw [List.size_toArray, R.length]; (first | lia | omega)) ⟨(Kp.rfl' s).tks _, s.toks + 1, ?_⟩
  rw [List.size_toArray, R.length]
theorem c_min2 (hh : c.A.handled = none) {a b : Int} : CallOK c (.builtin "min") [.int a, .int b] (.int (min a b)) := fun s N vs hN R₀ => by
  obtain ⟨v, r, e, ⟨t, e1⟩, v2, r2, e2, ⟨t2, e3⟩, e4⟩ := R₀
  subst e; have e4 : r2 = [] := e4; subst e1 e2 e3 e4
  refine min_two_ints hh fun h' tk hk => ⟨⟨h', tk, rfl, hk⟩, ?_⟩
  by_cases q : b < a
  · rw [if_pos q]; exact ⟨_, by rw [Int.min_eq_right (by (first | lia | omega))]⟩
  · rw [if_neg q]; exact ⟨_, by rw [Int.min_eq_left (by (first | lia | omega))]⟩
theorem c_max2 (hh : c.A.handled = none) {a b : Int} : CallOK c (.builtin "max") [.int a, .int b] (.int (max a b)) := fun s N vs hN R₀ => by
  obtain ⟨v, r, e, ⟨t, e1⟩, v2, r2, e2, ⟨t2, e3⟩, e4⟩ := R₀
  subst e; have e4 : r2 = [] := e4; subst e1 e2 e3 e4
  refine max_two_ints hh fun h' tk hk => ⟨⟨h', tk, rfl, hk⟩, ?_⟩
  by_cases q : b > a
  · rw [if_pos q]; exact ⟨_, by rw [Int.max_eq_right (by (first | lia | omega))]⟩
  · rw [if_neg q]; exact ⟨_, by rw [Int.max_eq_left (by (first | lia | omega))]⟩
theorem c_min3 (hh : c.A.handled = none) {a b d : Int} : CallOK c (.builtin "min") [.int a, .int b, .int d] (.int (min (min a b) d)) := fun s N vs hN R₀ => by
  obtain ⟨v, r, e, ⟨t, e1⟩, v2, r2, e2, ⟨t2, e3⟩, v3, r3, e4, ⟨t3, e5⟩, e6⟩ := R₀
  subst e; have e6 : r3 = [] := e6; subst e1 e2 e3 e4 e5 e6
  refine min_three_ints hh fun h' tk hk => ⟨⟨h', tk, rfl, hk⟩, ?_⟩
  by_cases q : b < a
  · rw [if_pos q]
    by_cases q2 : d < b
    · rw [if_pos q2]; exact ⟨_, by congr 1; (first | lia | omega)⟩
    · rw [if_neg q2]; exact ⟨_, by congr 1; (first | lia | omega)⟩
  · rw [if_neg q]
    by_cases q2 : d < a
    · rw [if_pos q2]; exact ⟨_, by congr 1; (first | lia | omega)⟩
    · rw [if_neg q2]; exact ⟨_, by congr 1; (first | lia | omega)⟩

/-! displays -/
theorem args_new {pos : Pos} {es : List Expr} {ts : List Tr} (HA : ArgsOK c σ pos es ts) (hsz : ts.length ≤ sizeLine) : EvNew c σ (.List es pos) (.list ts) := fun s m α B =>
  List_ (wpAny_mono (HA s m α B) (fun vs s₁ h => by
    obtain ⟨K, R⟩ := h
    refine wpAny_newObj_type ⟨K.trans' (push_kp s₁ _), _, rfl, keeps_none K (size_none _), vs, 0, Heap.get?_push_size _ rfl, ?_⟩ (by show vs.toArray.size ≤ _; rw [List.size_toArray, R.length]; exact hsz)
    exact RTs.imp (fun b o hn e => ⟨Heap.get?_push_of_some _ e, fun M => M.elim hn fun z => Nat.lt_irrefl _ (z ▸ Heap.lt_size e)⟩) _ _ R) fun _ _ x => x)
theorem ev_tuple {pos : Pos} {k' : Nat} {es : List Expr} {ts : List Tr} (HA : ArgsOK c σ pos es ts) (hsz : ts.length ≤ sizeLine) : EvOK c σ (.Tuple es k' pos) (.tuple ts) := fun s m α B =>
  Tuple_ (wpAny_mono (HA s m α B) (fun vs s₁ h => by
    obtain ⟨K, R⟩ := h
    refine wpAny_newObj_type ⟨K.trans' (push_kp s₁ _), _, vs, 0, rfl, fun M => (B.keeps K.heap).mutNe M (size_none _) rfl, Heap.get?_push_size _ rfl, R.keep fun b o e => Heap.get?_push_of_some _ e⟩ (by show vs.toArray.size ≤ _; rw [List.size_toArray, R.length]; exact hsz)) fun _ _ x => x)
theorem new_dict {pos : Pos} : EvNew c σ (.Dict [] [] pos) (.dict [] []) := fun s m α B => by
  rw [eval_Dict_empty]
  refine wpAny_bind (wpAny_standAt ?_)
  refine wpAny_newObj_type ⟨push_kp s _, _, rfl, size_none _, [], [], 0, Heap.get?_push_size _ rfl, List.nodup_nil, .nil, rfl⟩
end
end TL
end
/-! ### TLS -/
section
open PySem PyProof.Rows
namespace TL
/-- a text out of its signs -/
noncomputable abbrev S (l : List Nat) : Str := ⟨l.toArray⟩
theorem len_S (l : List Nat) : (S l).length = l.length := by simp [S, Str.length]

theorem idx_plain (lo hi : Option Int) (n : Nat) : Builtin.Str.strSliceIndices lo hi 1 n = (List.range ((hi.elim n (clipAt n)) - (lo.elim 0 (clipAt n)))).map ((lo.elim 0 (clipAt n)) + ·) := by
  have e : Builtin.Str.strSliceIndices lo hi 1 n = sliceRange (sliceBounds lo hi none n).1 (sliceBounds lo hi none n).2.1 1 := by
    cases lo <;> cases hi <;> rfl
  rw [e, sliceBounds_plain, sliceRange_one]

theorem clipAt_le (n : Nat) (i : Int) : clipAt n i ≤ n := by unfold clipAt; (first | lia | omega)

theorem strSl_plain (l : List Nat) (lo hi : Option Int) : strSl (S l) lo hi none = S ((l.drop (lo.elim 0 (clipAt l.length))).take (hi.elim l.length (clipAt l.length) - lo.elim 0 (clipAt l.length))) := by
  unfold strSl
  simp only [Option.getD_none, idx_plain, len_S]
  have hb : hi.elim l.length (clipAt l.length) ≤ l.length := by cases hi <;> simp [clipAt_le]
  generalize lo.elim 0 (clipAt l.length) = a
  generalize hi.elim l.length (clipAt l.length) = b at hb
  split
  · rename_i q
    simp only [beq_self_eq_true, Bool.true_and, List.length_map, List.length_range, beq_iff_eq] at q
    have : (l.drop a).take (b - a) = l := by
      rcases Nat.eq_zero_or_pos l.length with e | e
      · have : l = [] := List.length_eq_zero_iff.mp e
        subst this; simp
      · have ha : a = 0 := by (first | lia | omega)
        subst ha
        rw [List.drop_zero, Nat.sub_zero, List.take_of_length_le (by (first | lia | omega))]
    rw [this]
  · have key : ((List.range (b - a)).map (a + ·)).filterMap ((S l).cps[·]?) = (l.drop a).take (b - a) := by
      have := pick_run (S l).cps a (b - a)
      simpa [S] using this
    exact congrArg (fun z : List Nat => S z) key

theorem sl_from (l : List Nat) (a : Nat) : strSl (S l) (some (a : Int)) none none = S (l.drop a) := by
  rw [strSl_plain]
  simp only [Option.elim, clipAt_nat]
  congr 2
  rcases Nat.le_total a l.length with h | h
  · rw [Nat.min_eq_left h, List.take_of_length_le (by simp)]
  · rw [Nat.min_eq_right h, List.drop_of_length_le h]; simp
theorem sl_upto (l : List Nat) (b : Nat) : strSl (S l) none (some (b : Int)) none = S (l.take b) := by
  rw [strSl_plain]
  simp only [Option.elim, clipAt_nat, List.drop_zero, Nat.sub_zero]
  have : l.take (min b l.length) = l.take b := by
    rcases Nat.le_total b l.length with h | h
    · rw [Nat.min_eq_left h]
    · rw [Nat.min_eq_right h, List.take_of_length_le (Nat.le_refl _), List.take_of_length_le h]
  rw [this]
theorem sl_but (l : List Nat) (q : Nat) (hq : 1 ≤ q) : strSl (S l) none (some (-(q : Int))) none = S (l.take (l.length - q)) := by
  rw [strSl_plain]
  simp only [Option.elim, clipAt_neg _ _ hq, List.drop_zero, Nat.sub_zero]
theorem sl_all (l : List Nat) : strSl (S l) none none none = S l := by
  rw [strSl_plain]; simp [Option.elim]

theorem sl_rev (l : List Nat) : strSl (S l) none none (some (-1)) = S l.reverse := by
  unfold strSl
  have h1 : (((some (-1 : Int)).getD 1 == 1) && ((Builtin.Str.strSliceIndices none none ((some (-1 : Int)).getD 1) (S l).length).length == (S l).length)) = false := rfl
  rw [h1, if_neg (by simp)]
  have e : Builtin.Str.strSliceIndices none none ((some (-1 : Int)).getD 1) (S l).length = (List.range l.length).map fun k => l.length - 1 - k := by
    show sliceRange (((S l).length : Int) - 1) (-1) (-1) = _
    rw [len_S]
    unfold sliceRange
    rw [if_neg (by decide)]
    by_cases h : l.length = 0
    · rw [h]; rfl
    · have : ((l.length : Int) - 1) > -1 := by (first | lia | omega)
      rw [if_pos this]
      have e2 : (((l.length : Int) - 1 - -1 - -1 - 1) / (- -1)).toNat = l.length := by
        have : ((l.length : Int) - 1 - -1 - -1 - 1) = l.length := by (first | lia | omega)
        rw [this]; simp
      dsimp only
      rw [e2]
      apply List.map_congr_left
      intro k hk
      have := List.mem_range.mp hk
      (first | lia | omega)
  rw [e]
  refine congrArg (fun z : List Nat => S z) ?_
  apply List.ext_getElem?
  intro i
  rw [List.filterMap_map]
  have : List.filterMap ((fun x => (S l).cps[x]?) ∘ fun k => l.length - 1 - k) (List.range l.length) = (List.range l.length).map fun k => l.getD (l.length - 1 - k) 0 := by
    have gen : ∀ ks : List Nat, (∀ k ∈ ks, k < l.length) → List.filterMap ((fun x => (S l).cps[x]?) ∘ fun k => l.length - 1 - k) ks = ks.map fun k => l.getD (l.length - 1 - k) 0 := by
      intro ks
      induction ks with
      | nil => intro _; rfl
      | cons k ks ih =>
        intro hk
        have hk0 := hk k (by simp)
        have hlt : l.length - 1 - k < l.length := by (first | lia | omega)
        rw [List.filterMap_cons, List.map_cons, ih fun j hj => hk j (by simp [hj])]
        simp [hlt]
    exact gen _ fun k hk => List.mem_range.mp hk
  rw [this]
  by_cases h : i < l.length
  · have h2 : l.length - 1 - i < l.length := by (first | lia | omega)
    simp [h, h2]
  · simp [h]

theorem item_nat (l : List Nat) (i : Nat) (h : i < l.length) : Txt.item (S l) (i : Int) = S [l.getD i 0] := by
  have hn : ¬ ((i : Int) < 0) := by (first | lia | omega)
  have : seqIndex? (i : Int) (S l).length = some i := by
    unfold seqIndex?
    simp only [hn, if_false, len_S]
    rw [if_pos (by simp only [Bool.and_eq_true, decide_eq_true_eq]; (first | lia | omega))]
    simp
  unfold Txt.item Txt.charAt
  rw [this]
  simp [S, h]
theorem item_neg (l : List Nat) (q : Nat) (h1 : 1 ≤ q) (h : q ≤ l.length) : Txt.item (S l) (-(q : Int)) = S [l.getD (l.length - q) 0] := by
  have hn : ((-(q : Int)) < 0) := by (first | lia | omega)
  have : seqIndex? (-(q : Int)) (S l).length = some (l.length - q) := by
    unfold seqIndex?
    simp only [hn, if_true, len_S]
    rw [if_pos (by simp only [Bool.and_eq_true, decide_eq_true_eq]; (first | lia | omega))]
    congr 1; (first | lia | omega)
  have hlt : l.length - q < l.length := by (first | lia | omega)
  unfold Txt.item Txt.charAt
  rw [this]
  simp [S, hlt]
theorem S_beq (a b : List Nat) : (S a == S b) = (a == b) := by
  by_cases h : a = b
  · simp [h]
  · have : S a ≠ S b := fun e => h (by simpa [S] using e)
    rw [beq_eq_false_iff_ne.mpr h, beq_eq_false_iff_ne.mpr this]
end TL
end
/-! ### TLR9 -/
section
open PySem PyProof.Rows
namespace TL
section
variable {c : Cx} {σ : Sg} {P : Pm} {k : Nat} {m : Str → Option Value} {α : Str → Addr}

/-! unpacking -/
theorem draw_it {N : Addr → Prop} {prog : Program} {w : World} {A : Around} {I : Addr} {fp : List Addr} {ts : List Tr} {p : Nat → Value → Prop} {St : Nat → Heap → Prop} {vs : List Value} (W : Walks prog w A I fp [I] ts.length p St)
    (hnf : ∀ i h, St i h → ∃ o vs, h.get? I = some o ∧ o.data = .fields vs) (hp : ∀ i v, p i v → ∃ t, ts[i]? = some t ∧ ∀ h N', RTs h N' ts vs → RT h N' t v) {E : Value → Shared → Prop} :
    ∀ (n i : Nat) (s : Shared) (Q : List Value → Shared → Prop), i + n ≤ ts.length → St i s.heap → RTs s.heap N ts vs →
      (∀ ws h' tk, RTs h' N ((ts.drop i).take n) ws → St (i + n) h' → RTs h' N ts vs → (∀ b o, b ∉ [I] → s.heap.get? b = some o → h'.get? b = some o) → Q ws { s with heap := h', toks := tk }) → wpAny (model prog w) A (draw (.ref I) n) Q E s
  | 0, i, s, Q, hle, hst, R, hQ => by
    show wpAny _ _ (pure []) Q E s
    exact wpAny_pure (hQ [] s.heap s.toks (by simp [RTs]) hst R fun _ _ _ e => e)
  | n + 1, i, s, Q, hle, hst, R, hQ => by
    have hlt : i < ts.length := by (first | lia | omega)
    show wpAny _ _ (pyNext (.ref I) >>= _) Q E s
    refine wpAny_bind (W.item i s _ _ hlt hst fun v h₁ tk₁ hP hst₁ hk₁ => ?_)
    obtain ⟨oI, vI, hoI, hdI⟩ := hnf _ _ hst
    have step : ∀ t v, RT s.heap N t v → RT h₁ N t v := fun t v => RT.impD (fun b o d hn e => ⟨hk₁ b o (by
      simp only [List.mem_singleton]
      intro z; subst z; rw [hoI] at e; cases e; exact d _ hdI) e, hn⟩) t v
    have R₁ : RTs h₁ N ts vs := RTs.impD (fun b o d hn e => ⟨hk₁ b o (by
      simp only [List.mem_singleton]
      intro z; subst z; rw [hoI] at e; cases e; exact d _ hdI) e, hn⟩) _ _ R
    obtain ⟨t, ht, hv⟩ := hp i v hP
    refine wpAny_bind (wpAny_holding (draw_it W hnf hp n (i + 1) _ _ (by (first | lia | omega)) hst₁ R₁ fun ws h₂ tk₂ Rw hst₂ R₂ hk₂ => wpAny_pure ?_))
    have hd : ts.drop i = t :: ts.drop (i + 1) := by
      rw [List.drop_eq_getElem_cons hlt]
      congr 1
      rw [List.getElem?_eq_getElem hlt] at ht
      exact Option.some.inj ht
    refine hQ (v :: ws) h₂ tk₂ ?_ (by rw [show i + (n + 1) = i + 1 + n by (first | lia | omega)]; exact hst₂) R₂ fun b o hb e => hk₂ b o hb (hk₁ b o hb e)
    rw [hd, List.take_succ_cons]
    exact ⟨v, ws, rfl, hv _ _ R₂, Rw⟩

theorem unpack_it (hh : c.A.handled = none) {N : Addr → Prop} {s : Shared} {v : Value} {ts : List Tr} {E : Value → Shared → Prop} {Q : List Value → Shared → Prop} (hni : ∀ E Q, Q false s → wpAny (model c.prog c.w) c.A (notIterableAtAll v) Q E s)
    (X : ∀ E, wpAny (model c.prog c.w) c.A (pyIter v) (fun it s₂ => ItAt c N s it s₂ ts) E s) (hQ : ∀ ws s', Kp s s' → RTs s'.heap N ts ws → Q ws s') : wpAny (model c.prog c.w) c.A (unpackItems v ts.length none) Q E s := by
  unfold unpackItems
  refine wpAny_bind (hni _ _ ?_)
  simp only [Bool.false_eq_true, if_false]
  refine wpAny_bind (wpAny_holding (wpAny_mono (X _) (fun it s₂ h => ?_) fun _ _ x => x))
  obtain ⟨K, I, fp, p, St, vs, rfl, hI, W, hst, hfp, hnf, R, hp⟩ := h
  replace W := W c.A hh
  refine wpAny_bind (wpAny_holding (draw_it W hnf hp ts.length 0 s₂ _ (by (first | lia | omega)) hst R fun ws h' tk Rw hst' R' hk' => ?_))
  rw [List.drop_zero, List.take_length] at Rw
  have hlen := Rw.length
  have : ¬ (ws.length < ts.length) := by (first | lia | omega)
  simp only [this, if_false]
  refine wpAny_bind (wpAny_holding (W.done _ _ _ (by simpa using hst') fun h₂ tk₂ hk₂ => ?_))
  simp only [Option.isSome_none, Bool.false_eq_true, if_false]
  refine wpAny_pure (hQ ws _ ?_ ?_)
  · obtain ⟨h₁, tk₁, rfl, H₁⟩ := K
    refine ⟨h₂, tk₂, rfl, fun b o e => ?_⟩
    have hb : b ∉ [I] := by simpa using someNe e hI
    exact hk₂ b o hb (hk' b o hb (H₁ b o e))
  · obtain ⟨oI, vI, hoI, hdI⟩ := hnf _ _ hst'
    exact RTs.impD (fun b o d hn e => ⟨hk₂ b o (by
      simp only [List.mem_singleton]
      intro z; subst z
      have e : h'.get? b = some o := e
      rw [hoI] at e; cases e; exact d _ hdI) e, hn⟩) _ _ Rw

theorem iter_yes {T : String} {id : String} {v : Value} (slot : Slot T "__iter__" id) {M : Model} {A : Around} {s : Shared} (hT : s.TypeIs v T) : ∀ (E : Value → Shared → Prop) (Q : Bool → Shared → Prop), Q false s → wpAny M A (notIterableAtAll v) Q E s := fun E Q h => by
  unfold notIterableAtAll
  exact wpAny_bind (wpAny_specialOf hT slot.lookup (wpAny_pure h))

/-- an expression whose value may be unpacked into ts -/
noncomputable def UpOK (c : Cx) (σ : Sg) (e : Expr) (ts : List Tr) : Prop := ∀ s m α, Bd c σ m α s.heap → ∀ (E : Value → Shared → Prop) (Q : List Value → Shared → Prop), (∀ ws s', Kp s s' → RTs s'.heap (Mut c σ α) ts ws → Q ws s') →
  wpAny (model c.prog c.w) c.A (eval e c.env) (fun v s₁ => wpAny (model c.prog c.w) c.A (unpackItems v ts.length none) Q E s₁) E s
theorem up_tuple (O : c.Ok P k) {e : Expr} {ts : List Tr} (H : EvOK c σ e (.tuple ts)) : UpOK c σ e ts := fun s m α B E Q hQ => H.then B fun v s₁ K B₁ R => by
  have hT : s₁.TypeIs v "tuple" := let ⟨a, vs, n, e, hn, hg, _⟩ := R; e ▸ ⟨_, hg, rfl⟩
  exact unpack_it O.hh (iter_yes F.slot_tuple_iter hT) (fun E => it_tuple (fun b M => B₁.mutAt M) R) fun ws s' K' R' => hQ ws s' (K.trans' K') R'
theorem up_list (O : c.Ok P k) {e : Expr} {ts : List Tr} (H : EvOK c σ e (.list ts)) : UpOK c σ e ts := fun s m α B E Q hQ => H.then B fun v s₁ K B₁ R => by
  have hT : s₁.TypeIs v "list" := let ⟨a, vs, n, e, hn, hg, _⟩ := R; e ▸ ⟨_, hg, rfl⟩
  exact unpack_it O.hh (iter_yes slot_list_iter hT) (fun E => it_list (fun b M => B₁.mutAt M) R) fun ws s' K' R' => hQ ws s' (K.trans' K') R'

theorem Assign_Tuple' {elts : List Expr} {k' : Nat} {tpos : Pos} {value : Expr} {pos : Pos} {M : Model} {A : Around} {E : Value → Shared → Prop} {s : Shared} {env : Env} {Q : Flow → Shared → Prop}
    (h : wpAny M A (eval value env) (fun v s₁ => wpAny M A (unpackItems v (assignEach elts env).length none) (fun items s₂ =>
      wpAny M A (assignInOrder ((assignEach elts env).map (·.2)) items) (fun _ => Q .next) E s₂) E s₁) E s)
    (hstar : List.findIdx? (·.1) (assignEach elts env) = none := by rfl)
    (hs : swapsWithSole [.Tuple elts k' tpos] value pos.line env = pure false := by rfl)
    (hw : swappedStores [.Tuple elts k' tpos] value env = pure none := by rfl) (ha : ∀ v, assign (.Tuple elts k' tpos) env v = (do standAt tpos; unpack v (assignEach elts env)) := by intro _; rfl) :
    wpAny M A (exec (.Assign [.Tuple elts k' tpos] value pos) env) Q E s :=
  Assign_Tuple (wpAny_mono h (fun v s₁ h₁ => by
    rw [ha]
    refine wpAny_bind (wpAny_standAt ?_)
    unfold unpack
    rw [hstar]
    exact wpAny_bind (wpAny_holding h₁)) fun _ _ x => x) hs hw

theorem st_unpack2 (O : c.Ok P k) {x y : Str} {px py pos tpos : Pos} {k' : Nat} {e : Expr} {t u : Tr} {Φ : Fl → Prop} (hx : Sto c x) (hy : Sto c y) (H : UpOK c σ e [t, u]) (h : Φ (.next ((y, .tree u) :: (x, .tree t) :: σ)))
    (hs : swapsWithSole [.Tuple [.Name x px, .Name y py] k' tpos] e pos.line c.env = pure false := by rfl)
    (hw : swappedStores [.Tuple [.Name x px, .Name y py] k' tpos] e c.env = pure none := by rfl) : StOK c σ (.Assign [.Tuple [.Name x px, .Name y py] k' tpos] e pos) Φ := fun s m α B => by
  refine Assign_Tuple' (H s m α B _ _ fun ws s₁ K R => ?_) rfl hs hw
  obtain ⟨v, r, rfl, R₁, w, r', rfl, R₂, _⟩ := R
  refine wpAny_assignInOrder_more (wpAny_assign_Name (store_tree O hx (B.keeps K.heap) R₁ fun h₁ tk₁ m₁ B₁ F₁ => wpAny_assignInOrder_more (wpAny_assign_Name (store_tree O hy (s := { s₁ with heap := h₁, toks := tk₁ }) B₁ (R₂.imp (fun b o hn e => F₁ b o hn e)) fun h₂ tk₂ m₂ B₂ F₂ => wpAny_pure ?_))))
  obtain ⟨h₀, tk₀, rfl, H₀⟩ := K
  exact ⟨h₂, tk₂, _, m₂, α, rfl, B₂, ((Fz.of_keep H₀).trans F₁).trans F₂, h⟩
theorem st_unpack1 (O : c.Ok P k) {x : Str} {px pos tpos : Pos} {k' : Nat} {e : Expr} {t : Tr} {Φ : Fl → Prop} (hx : Sto c x) (H : UpOK c σ e [t]) (h : Φ (.next ((x, .tree t) :: σ)))
    (hs : swapsWithSole [.Tuple [.Name x px] k' tpos] e pos.line c.env = pure false := by rfl)
    (hw : swappedStores [.Tuple [.Name x px] k' tpos] e c.env = pure none := by rfl) : StOK c σ (.Assign [.Tuple [.Name x px] k' tpos] e pos) Φ := fun s m α B => by
  refine Assign_Tuple' (H s m α B _ _ fun ws s₁ K R => ?_) rfl hs hw
  obtain ⟨v, r, rfl, R₁, _⟩ := R
  refine wpAny_assignInOrder_more (wpAny_assign_Name (store_tree O hx (B.keeps K.heap) R₁ fun h₁ tk₁ m₁ B₁ F₁ => wpAny_pure ?_))
  obtain ⟨h₀, tk₀, rfl, H₀⟩ := K
  exact ⟨h₁, tk₁, _, m₁, α, rfl, B₁, (Fz.of_keep H₀).trans F₁, h⟩
/-- x, y = (e, f) -/
theorem st_swap2 (O : c.Ok P k) {x y : Str} {px py pos tpos : Pos} {k' : Nat} {e : Expr} {t u : Tr} {Φ : Fl → Prop} (hx : Sto c x) (hy : Sto c y) (H : UpOK c σ e [t, u]) (h : Φ (.next ((x, .tree t) :: (y, .tree u) :: σ)))
    (hs : swapsWithSole [.Tuple [.Name x px, .Name y py] k' tpos] e pos.line c.env = pure false := by rfl)
    (hw : swappedStores [.Tuple [.Name x px, .Name y py] k' tpos] e c.env = pure (some [x, y]) := by rfl) : StOK c σ (.Assign [.Tuple [.Name x px, .Name y py] k' tpos] e pos) Φ := fun s m α B => by
  refine Assign_Tuple_swapped (names := [x, y]) (H s m α B _ _ fun ws s₁ K R => ?_) hs hw
  obtain ⟨v, r, rfl, R₁, w, r', rfl, R₂, e'⟩ := R
  have e' : r' = [] := e'
  subst e'
  refine wpAny_assignInOrder_more (wpAny_bindName (store_tree O hy (B.keeps K.heap) R₂ fun h₁ tk₁ m₁ B₁ F₁ => wpAny_assignInOrder_more (wpAny_bindName (store_tree O hx (s := { s₁ with heap := h₁, toks := tk₁ }) B₁ (R₁.imp (fun b o hn e => F₁ b o hn e)) fun h₂ tk₂ m₂ B₂ F₂ => wpAny_pure ?_))))
  obtain ⟨h₀, tk₀, rfl, H₀⟩ := K
  exact ⟨h₂, tk₂, _, m₂, α, rfl, B₂, ((Fz.of_keep H₀).trans F₁).trans F₂, h⟩

/-! a list's item is stored -/
theorem st_setitem (O : c.Ok P k) {x : Str} {px pos pos' : Pos} {ie e : Expr} {i : Int} {t : Tr} {ts : List Tr} {Φ : Fl → Prop} (ho : σ.lookup x = some (.own (.list ts))) (H : EvOK c σ e t) (HI : EvOK c σ ie (.int i)) (h0 : 0 ≤ i) (h1 : i < ts.length) (h2 : ts.length < 2 ^ 62)
    (h : Φ (.next ((x, .own (.list (ts.set i.toNat t))) :: σ))) (hd : (x == ("__debug__" : Str)) = false := by decide) (hd' : (x == ("__classdict__" : Str)) = false := by decide)
    (hs : swapsWith e (some (.Subscript (.Name x px) ie pos')) pos.line c.env = pure false := by rfl) : StOK c σ (.Assign [.Subscript (.Name x px) ie pos'] e pos) Φ := fun s m α B => by
  refine wpAny_Assign_Subscript (H.then B fun v s₁ K₁ B₁ R₁ => ?_) hs
  obtain ⟨v₂, X, rfl, q⟩ := B₁.val x _ ho
  refine wpAny_Name (loadName_of O B₁ X ?_ hd') hd
  refine HI.then B₁ fun iv s₂ K₂ B₂ ⟨ti, e2⟩ => ?_
  subst e2
  obtain ⟨v₂, X, e3, vs, n, hg, R⟩ := B₂.val x _ ho
  have hlen := R.length
  have hl : s₂.heap.IsList (α x) vs.toArray := ⟨_, hg, rfl, n, rfl⟩
  have h63 : ((ts.length : Nat) : Int) < 2 ^ 62 := by exact_mod_cast h2
  have hsz : i < (vs.toArray.size : Nat) := by rw [List.size_toArray, hlen]; exact h1
  -- the very object
  have hob : ∀ {Q : Unit → Shared → Prop} {E}, (∀ h', h'.get? (α x) = some (sobj "list" (vs.set i.toNat v) n) → Heap.SameBut (α x) s₂.heap h' → Q () { s₂ with heap := h' }) →
      wpAny (model c.prog c.w) c.A (setItem (.ref (α x)) (.int i ti) v) Q E s₂ := by
    intro Q E hQ
    unfold setItem
    try with_reducible refine wpAny_holding ?_
    first | refine wpAny_bind (wpAny_pure ?_) | skip
    refine wpAny_bind (wpAny_sequenceKey hl.typeIs (by decide) ?_)
    refine wpAny_bind (wpAny_callSpecial?_slot (name := Str.ofString "__setitem__") hl.typeIs slot_list_setitem
      (wpAny_call_entry slot_list_setitem hl.typeIs entry_list_setitem ?_ (args_list_setitem _ _ _)))
    show wpAny _ _ (Builtin.List.listSubscript? (.int i ti) >>= _) _ _ s₂
    refine wpAny_bind (wpAny_listSubscript_int (fitsIndex_of h0 (by (first | lia | omega))) ?_)
    obtain ⟨j, rfl⟩ := Int.eq_ofNat_of_zero_le h0
    have hj : j < vs.toArray.size := by (first | lia | omega)
    have hx' : vs.toArray[j]? = some vs.toArray[j] := Array.getElem?_eq_getElem hj
    show wpAny _ _ ((seqItemAt (α x) j >>= fun r => pure (r.map (j, ·))) >>= _) _ _ s₂
    refine wpAny_bind (wpAny_bind (wpAny_seqItemAt hg rfl (wpAny_pure ?_)))
    rw [hx']
    show wpAny _ _ (setSeqItemAt (α x) j v >>= _) _ _ s₂
    have hfin : (s₂.heap.update (α x) (Obj.mapSeq (·.setIfInBounds j v))).get? (α x) = some (sobj "list" (vs.set j v) n) := by
      refine (Heap.get?_update_self _ hg (Obj.isFreed_of_seq (xs := vs.toArray.setIfInBounds j v) (n := n) ?_)).trans ?_
      · simp [Obj.mapSeq]
      · simp [Obj.mapSeq]
    refine wpAny_bind (wpAny_setSeqItemAt hg rfl ?_)
    first
      | exact wpAny_bind (wpAny_pure (wpAny_pure ⟨.none, rfl, wpAny_pure (hQ _ hfin (Heap.SameBut.update ..))⟩))
      | exact wpAny_pure ⟨.none, rfl, wpAny_pure (hQ _ hfin (Heap.SameBut.update ..))⟩
  refine hob fun h' hg' hs' => ?_
  have R₁' := R₁.keep K₂.heap
  have B₃ := B₂.updOwn (t' := .list (ts.set i.toNat t)) ho ⟨_, n, hg', (R.sameBut hs' (.inr (.inr (.inr ⟨x, _, ho, rfl⟩)))).set _ (R₁'.sameBut hs' (.inr (.inr (.inr ⟨x, _, ho, rfl⟩))))⟩ hs'
  obtain ⟨h₀, tk₀, rfl, H₀⟩ := K₁.trans' K₂
  refine ⟨h', tk₀, _, m, α, rfl, B₃, fun b o hn e => ⟨(hs'.2 b fun z => hn (.inr (.inr (.inr ⟨x, _, ho, z.symm⟩)))).trans (H₀ b o e), fun M => hn ?_⟩, h⟩
  rcases M with M | M | M | ⟨y, t'', e', M⟩
  · exact .inl M
  · exact .inr (.inl M)
  · exact .inr (.inr (.inl M))
  · rw [lookup_cons] at e'
    split at e'
    · rename_i q; subst q; exact .inr (.inr (.inr ⟨y, _, ho, M⟩))
    · exact .inr (.inr (.inr ⟨y, t'', e', M⟩))
end
end TL
end
/-! ### TLRa -/
section
open PySem PyProof.Rows
namespace TL
section
variable {c : Cx} {σ : Sg} {P : Pm} {k : Nat} {m : Str → Option Value} {α : Str → Addr}

/-! ranges -/
theorem rangeSize_nat {a b : Int} {n : Nat} (h : b - a = n) : Builtin.Range.rangeSize a b 1 = (n : Int) := by
  rw [rangeSize_one]; split <;> (first | lia | omega)

theorem ito_range1 (O : c.Ok P k) {f : Str} {np pos : Pos} {e : Expr} {n : Nat} (b : Blt c P f (.type "range")) (H : EvOK c σ e (.int (n : Int))) (hn : n < 2 ^ 60) (he : starEach [e] c.env = (false, eval e c.env) :: starEach [] c.env := by rfl) :
    ItOK c σ (.Call (.Name f np) [e] [] pos) (intsT (rng 0 n 1 n)) := fun s m α B E =>
  wpAny_Call_ofName (name_builtin O B b.kind b.free b.boot (callWith_type1 (wpAny_mono (args_cons' H args_nil' he s m α B) (fun vs s₁ h => by
    obtain ⟨K, v, r, rfl, ⟨t, e1⟩, e2⟩ := h
    have e2 : r = [] := e2
    subst e1 e2
    refine call_range_1 ?_
    have K₂ := K.trans' (push_kp' s₁ { cls := .type "range", data := .fields #[.int 0 s₁.toks, .int (n : Int) t, .int 1 (s₁.toks + 1)] } (s₁.toks + 1 + 1))
    have hn' : ((n : Nat) : Int) < 2 ^ 60 := by exact_mod_cast hn
    refine wpAny_mono (it_range (c := c) (N := Mut c σ α) (fun b M => (B.keeps K₂.heap).mutAt M) (Heap.get?_push_size _ rfl) (small_one (by (first | lia | omega)) (by (first | lia | omega)) (by (first | lia | omega)) (by (first | lia | omega))) (rangeSize_nat (by (first | lia | omega)))) (fun it s₂ x => x.kp K₂) fun _ _ x => x) fun _ _ x => x.elim) he rfl) b.notName b.notDebug)

theorem ito_range2 (O : c.Ok P k) {f : Str} {np pos : Pos} {e e' : Expr} {a z : Int} {n : Nat} (b : Blt c P f (.type "range")) (H : EvOK c σ e (.int a)) (H' : EvOK c σ e' (.int z)) (hn : z - a = n) (ha : -(2 ^ 60) < a) (ha' : a < 2 ^ 60) (hz : z < 2 ^ 60)
    (he : starEach [e, e'] c.env = (false, eval e c.env) :: starEach [e'] c.env := by rfl) (he' : starEach [e'] c.env = (false, eval e' c.env) :: starEach [] c.env := by rfl) (hp : (backTo pos (starEach [e'] c.env)).any (·.1) = false := by rfl) :
    ItOK c σ (.Call (.Name f np) [e, e'] [] pos) (intsT (rng a z 1 n)) := fun s m α B E =>
  wpAny_Call_ofName (name_builtin O B b.kind b.free b.boot (callWith_type1 (wpAny_mono (args_cons' H (args_cons' H' args_nil' he') he s m α B) (fun vs s₁ h => by
    obtain ⟨K, v, r, rfl, ⟨t, e1⟩, v2, r2, e2, ⟨t2, e3⟩, e4⟩ := h
    have e4 : r2 = [] := e4
    subst e1 e2 e3 e4
    refine call_range_2 ?_
    have K₂ := K.trans' (push_kp' s₁ { cls := .type "range", data := .fields #[.int a t, .int z t2, .int 1 s₁.toks] } (s₁.toks + 1))
    refine wpAny_mono (it_range (c := c) (N := Mut c σ α) (fun b M => (B.keeps K₂.heap).mutAt M) (Heap.get?_push_size _ rfl) (small_one (by (first | lia | omega)) (by (first | lia | omega)) (by (first | lia | omega)) (by (first | lia | omega))) (rangeSize_nat hn)) (fun it s₂ x => x.kp K₂) fun _ _ x => x) fun _ _ x => x.elim) he hp) b.notName b.notDebug)

/-- list(range(a, z, st)) -/
theorem new_list_range (O : c.Ok P k) {f g : Str} {np np' pos pos' : Pos} {e e' e'' : Expr} {a z st : Int} {n : Nat} (bl : Blt c P f (.type "list")) (b : Blt c P g (.type "range")) (H : EvOK c σ e (.int a)) (H' : EvOK c σ e' (.int z)) (H'' : EvOK c σ e'' (.int st))
    (h0 : st ≠ 0) (hst : st.natAbs < 1073741824) (hsmall : Builtin.Range.small a z st = true) (hn : Builtin.Range.rangeSize a z st = (n : Int)) (hle : n ≤ 2 ^ 24)
    (he : starEach [e, e', e''] c.env = (false, eval e c.env) :: starEach [e', e''] c.env := by rfl) (he' : starEach [e', e''] c.env = (false, eval e' c.env) :: starEach [e''] c.env := by rfl)
    (he'' : starEach [e''] c.env = (false, eval e'' c.env) :: starEach [] c.env := by rfl) (hp : (backTo pos' (starEach [e', e''] c.env)).any (·.1) = false := by rfl)
    (hl : starEach [.Call (.Name g np') [e, e', e''] [] pos'] c.env = (false, eval (.Call (.Name g np') [e, e', e''] [] pos') c.env) :: starEach [] c.env := by rfl) :
    EvNew c σ (.Call (.Name f np) [.Call (.Name g np') [e, e', e''] [] pos'] [] pos) (.list (intsT (rng a z st n))) := fun s m α B => by
  refine wpAny_Call_ofName (name_builtin O B bl.kind bl.free bl.boot ?_ bl.notName bl.notDebug)
  refine callWith_type1 ?_ hl rfl
  refine args_cons ?_ hl
  refine wpAny_Call_ofName (name_builtin O B b.kind b.free b.boot ?_ b.notName b.notDebug)
  refine callWith_type1 ?_ he hp
  refine wpAny_mono (args_cons' H (args_cons' H' (args_cons' H'' args_nil' he'') he') he s m α B) (fun vs s₁ h => ?_) fun _ _ x => x.elim
  obtain ⟨K, v, r, rfl, ⟨t, e1⟩, v2, r2, e2, ⟨t2, e3⟩, v3, r3, e4, ⟨t3, e5⟩, e6⟩ := h
  have e6 : r3 = [] := e6
  subst e1 e2 e3 e4 e5 e6
  refine call_range_3 h0 ?_ (.inl (PyProof.noPylong_small hst))
  have K₂ := K.trans' (push_kp' s₁ { cls := .type "range", data := .fields #[.int a t, .int z t2, .int st t3] } s₁.toks)
  refine args_nil ?_
  refine call_list_range O.hh (Heap.get?_push_size _ rfl) hsmall hn hle fun h' tk acc' c' hk hS hacc => ?_
  have K₃ := K₂.trans' ⟨h', tk, rfl, hk⟩
  refine ⟨K₃, _, rfl, ?_, acc'.toList, c', by simpa using hS, ?_⟩
  · exact keeps_none K₂ (size_none _)
  · obtain ⟨hsz, hit⟩ := hacc
    have gen : ∀ (N' : Addr → Prop) (l : List Value) (i : Nat), (∀ (j : Nat) (v : Value), l[j]? = some v → ∃ t, v = Value.int (a + ((i + j : Nat) : Int) * st) t) → RTs h' N' ((List.range' i l.length).map fun (j : Nat) => Tr.int (a + (j : Int) * st)) l := by
      intro N' l
      induction l with
      | nil => intro i _; rfl
      | cons v l ih =>
        intro i hv
        obtain ⟨t, ht⟩ := hv 0 v rfl
        refine ⟨v, l, rfl, ⟨t, by simpa using ht⟩, ?_⟩
        exact ih (i + 1) fun j w hw => by
          obtain ⟨t, ht⟩ := hv (j + 1) w (by simpa using hw)
          exact ⟨t, by rw [ht]; congr 4; (first | lia | omega)⟩
    have := fun N' => gen N' acc'.toList 0 fun j v hj => by
      obtain ⟨t, ht⟩ := hit j v (by simpa using hj)
      exact ⟨t, by rw [ht]; simp⟩
    have e7 : acc'.toList.length = n := by simpa using hsz
    rw [e7] at this
    unfold intsT rng
    rw [List.map_map, List.range_eq_range']
    exact this _

/-! append -/
theorem st_append (O : c.Ok P k) {x : Str} {px pos apos cpos : Pos} {e : Expr} {t : Tr} {ts : List Tr} {Φ : Fl → Prop} (ho : σ.lookup x = some (.own (.list ts))) (H : EvOK c σ e t) (h2 : ts.length ≤ sizeLine) (h : Φ (.next ((x, .own (.list (ts ++ [t]))) :: σ)))
    (hd : (x == ("__debug__" : Str)) = false := by decide) (hd' : (x == ("__classdict__" : Str)) = false := by decide)
    (hbase : attributeBase (.Name x px) (Str.ofString "append") c.env (eval (.Name x px) c.env) = eval (.Name x px) c.env := by rfl)
    (hfew : ((((backTo cpos (starEach [e] c.env)).all fun x => !x.fst) && (backToKw cpos (keywordEach [] c.env)).all fun x => x.fst.isSome) && decide (([e].length + ([] : List Keyword).length + if ([] : List Keyword).isEmpty = true then 0 else 1) < 30)) = true := by rfl)
    (hline : (apos.endLine == cpos.line) = true := by rfl) (htrees : backTo cpos (starEach [e] c.env) = [(false, eval e c.env)] := by rfl)
    (hi : interactive c.env = false := by rfl) (hs : swapsWith (.Call (.Attribute (.Name x px) (Str.ofString "append") apos) [e] [] cpos) none pos.line c.env = pure false := by rfl) :
    StOK c σ (.Expr (.Call (.Attribute (.Name x px) (Str.ofString "append") apos) [e] [] cpos) pos) Φ := fun s m α B => by
  refine wpAny_Expr (wpAny_Call_append hbase hfew hline htrees ?_) hi hs
  obtain ⟨v, X, rfl, vs, n, hg, R⟩ := B.val x _ ho
  refine wpAny_Name (loadName_of O B X ⟨_, _, rfl, ⟨_, n, hg, rfl, rfl, rfl⟩, ?_⟩ hd') hd
  refine H.then B fun y s₁ K B₁ Ry => ?_
  have hg₁ := K.heap _ _ hg
  have Mx : Mut c σ α (α x) := .inr (.inr (.inr ⟨x, _, ho, rfl⟩))
  refine wpAny_list_append_plain (hsz := by rw [List.size_toArray, R.length]; exact h2) ⟨n, hg₁⟩ fun h' hl' hs' => ?_
  obtain ⟨n', hl'⟩ := hl'
  have hl'' : h'.get? (α x) = some (sobj "list" (vs ++ [y]) n') := by simpa using hl'
  have B₃ := B₁.updOwn (t' := .list (ts ++ [t])) ho ⟨_, n', hl'', ((R.keep K.heap).sameBut hs' Mx).snoc (Ry.sameBut hs' Mx)⟩ hs'
  obtain ⟨h₀, tk₀, rfl, H₀⟩ := K
  refine ⟨h', tk₀, _, m, α, rfl, B₃, fun b o hn e => ⟨(hs'.2 b fun z => hn (z ▸ Mx)).trans (H₀ b o e), fun M => hn ?_⟩, h⟩
  rcases M with M | M | M | ⟨y, t'', e', M⟩
  · exact .inl M
  · exact .inr (.inl M)
  · exact .inr (.inr (.inl M))
  · rw [lookup_cons] at e'
    split at e'
    · rename_i q; subst q; exact .inr (.inr (.inr ⟨y, _, ho, M⟩))
    · exact .inr (.inr (.inr ⟨y, t'', e', M⟩))

/-! sub-states -/
noncomputable def Sub (σ₀ σ : Sg) : Prop := ∀ x lv, σ₀.lookup x = some lv → σ.lookup x = some lv
theorem sub_nil : Sub [] σ := fun x lv e => by cases e
theorem sub_cons {x : Str} {lv : LV} {σ₀ : Sg} (e : σ.lookup x = some lv) (h : Sub σ₀ σ) : Sub ((x, lv) :: σ₀) σ := fun y l q => by
  rw [lookup_cons] at q
  split at q
  · rename_i z; subst z; cases q; exact e
  · exact h y l q
theorem ex_to {σ₀ : Sg} {ss : List Stmt} {Φ : Fl → Prop} (H : Sub σ₀ σ) (X : ExOK c σ₀ ss Φ) : ExOK c σ ss Φ := ex_sub H X
end
end TL
end
/-! ### TLRb -/
section
open PySem PyProof.Rows
namespace TL
section
variable {c : Cx} {σ : Sg} {P : Pm} {k : Nat} {m : Str → Option Value} {α : Str → Addr}

theorem ts_eq {c : Cx} {σ : Sg} {e : Expr} {b b' : Bool} (q : b = b') (H : TsOK c σ e b) : TsOK c σ e b' := q ▸ H
theorem mul_r {a b : Int} (h1 : -(2 ^ 64) < b) (h2 : b < 2 ^ 64) : IntMulOk a b := .of_right (intBits_le_64 h1 h2)
theorem mul_l {a b : Int} (h1 : -(2 ^ 64) < a) (h2 : a < 2 ^ 64) : IntMulOk a b := .of_left (intBits_le_64 h1 h2)
theorem ts_to {σ₀ : Sg} {e : Expr} {b : Bool} (H : Sub σ₀ σ) (X : TsOK c σ₀ e b) : TsOK c σ e b := fun s m α B => X s m α (B.sub H)
theorem sub_mono {x : Str} {lv : LV} {σ₀ : Sg} (H : Sub σ₀ σ) : Sub ((x, lv) :: σ₀) ((x, lv) :: σ) := fun y l q => by
  rw [lookup_cons] at q ⊢
  split at q
  · rename_i z; rw [if_pos z]; exact q
  · rename_i z; rw [if_neg z]; exact H y l q
theorem sub_rfl : Sub σ σ := fun _ _ e => e
theorem sub_trans {σ₁ σ₂ : Sg} (H : Sub σ σ₁) (H' : Sub σ₁ σ₂) : Sub σ σ₂ := fun x l e => H' _ _ (H x l e)
/-- a loop with one canonical state for each turn -/
theorem st_for_c (O : c.Ok P k) {x : Str} {px pos : Pos} {iter : Expr} {body : List Stmt} {ts : List Tr} {Φ : Fl → Prop} {W : Type} (C : W → Sg) (Q : Nat → W → Prop) (hx : Sto c x) (H : ItOK c σ iter ts) (w₀ : W) (h0 : Q 0 w₀) (hS : Sub (C w₀) σ)
    (turn : ∀ i t w, ts[i]? = some t → Q i w → ExOK c ((x, .tree t) :: C w) body (Lp Φ fun σ' => ∃ w', Q (i + 1) w' ∧ Sub (C w') σ')) (done : ∀ σ' w, Q ts.length w → Sub (C w) σ' → Φ (.next σ'))
    (hs : ∀ x, foldedSetIterable iter c.env x = pure x := by intro _; rfl) : StOK c σ (.For (.Name x px) iter body [] pos) Φ :=
  st_for O (fun i σ' => ∃ w, Q i w ∧ Sub (C w) σ') hx H ⟨w₀, h0, hS⟩ (fun i t σ' ht ⟨w, q, hS⟩ => ex_to (sub_mono hS) (turn i t w ht q)) (fun σ' ⟨w, q, hS⟩ => done σ' w q hS) hs
theorem st_while_c {test : Expr} {body : List Stmt} {pos : Pos} {Φ : Fl → Prop} {W : Type} (C : W → Sg) (Q : Nat → W → Prop) (n : Nat) (w₀ : W) (h0 : Q n w₀) (hS : Sub (C w₀) σ)
    (turn : ∀ n w, Q n w → ∃ b, TsOK c (C w) test b ∧ (b = true → ExOK c (C w) body (Lp Φ fun σ' => ∃ i, i < n ∧ ∃ w', Q i w' ∧ Sub (C w') σ')) ∧ (b = false → ∀ σ', Sub (C w) σ' → Φ (.next σ'))) :
    StOK c σ (.While test body [] pos) Φ :=
  st_while (fun n σ' => ∃ w, Q n w ∧ Sub (C w) σ') n ⟨w₀, h0, hS⟩ (fun n σ' ⟨w, q, hS⟩ => let ⟨b, h1, h2, h3⟩ := turn n w q; ⟨b, ts_to hS h1, fun e => ex_to hS (h2 e), fun e => h3 e σ' hS⟩)
end
end TL
end
/-! ### TLRc -/
section
open PySem PyProof.Rows
namespace TL
section
variable {c : Cx} {σ : Sg} {P : Pm} {k : Nat} {m : Str → Option Value} {α : Str → Addr}

/-! comprehensions -/
noncomputable def TestsOK (c : Cx) (σ : Sg) (ifs : List Expr) (b : Bool) : Prop := ∀ s m α, Bd c σ m α s.heap → ∀ E : Value → Shared → Prop,
  wpAny (model c.prog c.w) c.A (forIn ifs true fun e r => if r = true then do let ok ← isTrue e c.env (eval e c.env); pure (ForInStep.yield ok) else pure (ForInStep.yield r)) (fun v s' => Kp s s' ∧ v = b) E s
theorem tests_nil : TestsOK c σ [] true := fun s m α B E => wpAny_tests_nil ⟨Kp.rfl' s, rfl⟩
theorem tests_one {e : Expr} {b : Bool} (H : TsOK c σ e b) : TestsOK c σ [e] b := fun s m α B E => wpAny_tests_one (wpAny_mono (H s m α B) (fun _ _ x => x) fun _ _ x => x.elim)

noncomputable abbrev compCx (c : Cx) (scope : Scope) (cl : List (Str × Addr)) (C : Addr) (s : Shared) (N : Addr → Prop) : Cx := ⟨c.prog, c.w, c.A, compEnvC scope cl C c.env, s, N⟩

noncomputable def CompEl (c : Cx) (P : Pm) (k : Nat) (scope : Scope) (σf : Sg) (x : Str) (ifs : List Expr) (elt : Expr) (t : Tr) (r : Option Tr) : Prop := ∀ cl C s N, (compCx c scope cl C s N).Ok P k →
  (r = none ∧ TestsOK (compCx c scope cl C s N) ((x, .tree t) :: σf) ifs false) ∨
  ∃ r', r = some r' ∧ TestsOK (compCx c scope cl C s N) ((x, .tree t) :: σf) ifs true ∧ EvOK (compCx c scope cl C s N) ((x, .tree t) :: σf) elt r'

/-- the names a comprehension takes from around -/
noncomputable def SfOK (c : Cx) (σ : Sg) (scope : Scope) : Sg → Prop
  | [] => True
  | (y, lv) :: r => (∃ t, lv = .tree t) ∧ σ.lookup y = some lv ∧ scope.names.lookup y = some .free ∧ (c.env.kindOf y = some .cell ∨ c.env.kindOf y = some .free) ∧ SfOK c σ scope r
theorem SfOK.get {scope : Scope} : ∀ {σf : Sg}, SfOK c σ scope σf → ∀ y lv, σf.lookup y = some lv → (∃ t, lv = .tree t) ∧ σ.lookup y = some lv ∧ scope.names.lookup y = some .free ∧ (c.env.kindOf y = some .cell ∨ c.env.kindOf y = some .free)
  | [], _, y, lv, e => by cases e
  | (z, l) :: r, ⟨h1, h2, h3, h4, h5⟩, y, lv, e => by
    rw [lookup_cons] at e
    split at e
    · rename_i q; subst q; cases e; exact ⟨h1, h2, h3, h4⟩
    · exact SfOK.get h5 y lv e

/-- one of the things others may turn is turned -/
theorem Bd.touch {h h' : Heap} (B : Bd c σ m α h) {a : Addr} (hs : Heap.SameBut a h h') (ha : c.mu a) (h0 : c.s0.heap.get? a = none) (hL : a ≠ c.env.locals) (hc : ∀ y b, c.env.cells.lookup y = some b → b ≠ a)
    (ho : ∀ x t, σ.lookup x = some (.own t) → False) (hex : ∃ o, h'.get? a = some o) : Bd c σ m α h' where
  ns := B.ns.sameBut hs (Ne.symm hL)
  above := B.above
  keep := fun b o e => (hs.2 b (someNe e h0)).trans (B.keep b o e)
  muAt := B.muSame hs hex
  cells := fun n b e => ⟨(B.cells n b e).1, let ⟨v, q⟩ := (B.cells n b e).2; ⟨v, q.sameBut hs (hc n b e.1)⟩⟩
  cinj := B.cinj
  val := fun x lv e => by
    obtain ⟨v, X, q⟩ := B.val x lv e
    refine ⟨v, X.imp fun b w z d => d.sameBut hs (hc x b z), ?_⟩
    cases lv with
    | own t => exact (ho x t e).elim
    | tree t => exact RT.sameBut hs (.inl ha) q
  own := fun x t e => (ho x t e).elim

theorem closure_go {env : Env} : ∀ (names : List (Str × NameKind)) (cs : List (Str × Addr)), (∀ p ∈ names, p.2 = .free → ∃ a, env.cells.lookup p.1 = some a) → (∀ y a, cs.lookup y = some a → env.cells.lookup y = some a) →
    ∃ cl, (forIn names cs fun (x : Str × NameKind) (r : List (Str × Addr)) => (if (x.2 == NameKind.free) = true then do
        let a ← cellOf env x.1
        pure (ForInStep.yield ((x.1, a) :: r))
      else pure (ForInStep.yield r) : Sem (ForInStep (List (Str × Addr))))) = pure cl ∧ (∀ y, (names.lookup y = some .free ∨ (cs.lookup y).isSome) → (cl.lookup y).isSome) ∧ ∀ y a, cl.lookup y = some a → env.cells.lookup y = some a
  | [], cs, _, hc => ⟨cs, rfl, fun y h => h.elim (fun z => by cases z) id, hc⟩
  | (n, kd) :: r, cs, h, hc => by
    rw [List.forIn_cons]
    by_cases q : kd = .free
    · subst q
      obtain ⟨a, ha⟩ := h (n, .free) (by simp) rfl
      obtain ⟨cl, e, h1, h2⟩ := closure_go r ((n, a) :: cs) (fun p hp => h p (by simp [hp])) fun y b e => by
        rw [List.lookup_cons] at e
        cases q : y == n with
        | true => rw [q] at e; cases e; rw [beq_iff_eq] at q; rw [q]; exact ha
        | false => rw [q] at e; exact hc y b e
      refine ⟨cl, ?_, fun y hy => h1 y ?_, h2⟩
      · rw [← e]
        simp only [beq_self_eq_true, if_true, cellOf, ha]
        rfl
      · rw [List.lookup_cons] at hy ⊢
        cases q : y == n with
        | true => exact .inr rfl
        | false => rw [q] at hy; exact hy
    · have hb : (kd == NameKind.free) = false := by simpa using q
      obtain ⟨cl, e, h1, h2⟩ := closure_go r cs (fun p hp => h p (by simp [hp])) hc
      refine ⟨cl, ?_, fun y hy => h1 y ?_, h2⟩
      · rw [← e]
        simp only [hb, Bool.false_eq_true, if_false]
        rfl
      · rw [List.lookup_cons] at hy
        cases q' : y == n with
        | true =>
          rw [q'] at hy
          refine hy.elim (fun z => ?_) .inr
          cases z; exact (q rfl).elim
        | false => rw [q'] at hy; exact hy
theorem closure_of {env : Env} {scope : Scope} (h : ∀ p ∈ scope.names, p.2 = .free → ∃ a, env.cells.lookup p.1 = some a) :
    ∃ cl, closureFor scope env = pure cl ∧ (∀ y, scope.names.lookup y = some .free → cl.lookup y = env.cells.lookup y) ∧ ∀ y a, cl.lookup y = some a → env.cells.lookup y = some a := by
  obtain ⟨cl, e, h1, h2⟩ := closure_go scope.names [] h (fun y a e => by cases e)
  refine ⟨cl, ?_, fun y hy => ?_, h2⟩
  · rw [← e]
    unfold closureFor
    simp only [bind_pure]
  · obtain ⟨a, ha⟩ := Option.isSome_iff_exists.mp (h1 y (.inl hy))
    rw [ha, h2 y a ha]

theorem lookup_relabel_free {env : Env} : ∀ {names : List (Str × NameKind)} {x : Str}, names.lookup x = some .free →
    (names.map fun (n, k) => if (k == NameKind.free && env.scope.kind == .function && env.kindOf n == some .cell) then (n, NameKind.cell) else (n, k)).lookup x = some .free ∨
    (names.map fun (n, k) => if (k == NameKind.free && env.scope.kind == .function && env.kindOf n == some .cell) then (n, NameKind.cell) else (n, k)).lookup x = some .cell
  | [], _, h => by simp at h
  | (n, k) :: r, x, h => by
    have ih := @lookup_relabel_free env r x
    show List.lookup x ((if (k == NameKind.free && env.scope.kind == .function && env.kindOf n == some .cell) = true then (n, NameKind.cell) else (n, k)) :: _) = _ ∨ List.lookup x ((if (k == NameKind.free && env.scope.kind == .function && env.kindOf n == some .cell) = true then (n, NameKind.cell) else (n, k)) :: _) = _
    cases hx : x == n with
    | true =>
      simp only [List.lookup_cons, hx] at h
      cases h
      by_cases hc : (NameKind.free == NameKind.free && env.scope.kind == .function && env.kindOf n == some .cell) = true
      · rw [if_pos hc]; simp [List.lookup_cons, hx]
      · rw [if_neg hc]; simp [List.lookup_cons, hx]
    | false =>
      simp only [List.lookup_cons, hx] at h
      by_cases hc : (k == NameKind.free && env.scope.kind == .function && env.kindOf n == some .cell) = true
      · rw [if_pos hc]; simp only [List.lookup_cons, hx]; exact ih h
      · rw [if_neg hc]; simp only [List.lookup_cons, hx]; exact ih h

theorem Bd.cellAt {h : Heap} (B : Bd c σ m α h) {y : Str} {b : Addr} (e : c.env.cells.lookup y = some b) : ∃ o, h.get? b = some o := by
  cases q : c.s0.heap.get? b with
  | some o => exact ⟨o, B.keep _ _ q⟩
  | none => obtain ⟨_, v, o, q, _⟩ := B.cells y b ⟨e, q⟩; exact ⟨o, q⟩

theorem comp_core (O : c.Ok P k) {elt iter : Expr} {x : Str} {px pos : Pos} {ifs : List Expr} {scope : Scope} {σf : Sg} {ts : List Tr} {f : Tr → Option Tr} {cl : List (Str × Addr)} {s : Shared} (B : Bd c σ m α s.heap)
    (hcell : ∀ y ∈ scope.names, y.2 ≠ .cell) (hkind : scope.kind = .function) (hx : scope.names.lookup x = some .local) (hσf : SfOK c σ scope σf)
    (hcl : ∀ y, scope.names.lookup y = some .free → cl.lookup y = c.env.cells.lookup y) (hcl3 : ∀ y a, cl.lookup y = some a → c.env.cells.lookup y = some a)
    (HE : ∀ t ∈ ts, CompEl c P k scope σf x ifs elt t (f t)) (hsz : ts.length ≤ sizeLine) {it : Value} {s₂ : Shared} (X : ItAt c (Mut c σ α) s it s₂ ts) {E : Value → Shared → Prop} {RR : Value → Addr → Result → Shared → Prop}
    (hRR : ∀ D C h' tk m', s.heap.get? D = none → s.heap.get? C = none → D ≠ C → h'.Ns C m' → OR h' (fun b => Mut c σ α b ∨ b = D ∨ b = C) D (.list (ts.filterMap f)) → (∀ b o, s.heap.get? b = some o → h'.get? b = some o) →
      RR (.ref D) C (.ok .next) { s with heap := h', toks := tk }) :
    wpAny (model c.prog c.w) c.A (newList []) (fun acc s₃ => wpAny (model c.prog c.w) c.A (newFunctionEnv scope c.env.globals cl [] c.env.qual none .none (some c.env)) (fun cenv s₄ =>
      codeAny (model c.prog c.w) c.A (.compStart (.ListComp elt [⟨.Name x px, iter, ifs, 0⟩] scope pos) 0 it acc { cenv with scope := relabel scope c.env }) (RR acc cenv.locals) s₄) E s₃) E s₂ := by
  obtain ⟨K, I, fp, p, St, vs, rfl, hI, W, hst, hfp, hnf, R, hp⟩ := X
  replace W := W c.A O.hh
  refine wpAny_newObj_type (wpAny_newFunctionEnv hcell (by intro y hy; simp at hy) (fun h₁ hns₁ hsb₁ => ?_) hkind)
  dsimp only at hns₁ hsb₁ ⊢
  generalize hH2 : s₂.heap.push { cls := .type "list", dict := none, data := .seq ([] : List Value).toArray } = H2 at hns₁ hsb₁ ⊢
  generalize hD : s₂.heap.objs.size = D at *
  generalize hCd : H2.objs.size = C at *
  have hC : C = D + 1 := by rw [← hCd, ← hH2, Heap.size_push, hD]
  have hDC : D ≠ C := by rw [hC]; exact Nat.ne_of_lt (Nat.lt_succ_self _)
  have lt₂ : ∀ b o, s₂.heap.get? b = some o → b < D := fun b o e => hD ▸ Heap.lt_size e
  have ne₂ : ∀ b o, s₂.heap.get? b = some o → b ≠ D ∧ b ≠ C := fun b o e => ⟨Nat.ne_of_lt (lt₂ b o e), by rw [hC]; exact Nat.ne_of_lt (Nat.lt_succ_of_lt (lt₂ b o e))⟩
  have old : ∀ b o, s₂.heap.get? b = some o → h₁.get? b = some o := fun b o e => hsb₁.extBut b o (ne₂ b o e).2 (Heap.get?_push_of_some _ (hH2 ▸ Heap.get?_push_of_some _ e))
  have hacc : h₁.get? D = some (sobj "list" [] 0) := hsb₁.extBut _ _ hDC (Heap.get?_push_of_some _ (hH2 ▸ hD ▸ Heap.get?_push_size _ rfl))
  have nD : s.heap.get? D = none := keeps_none K (hD ▸ size_none _)
  have nC : s.heap.get? C = none := by
    cases e : s.heap.get? C with
    | none => rfl
    | some o => exact absurd rfl (ne₂ _ _ (K.heap _ _ e)).2
  -- the comprehension's own activation
  generalize hcdef : compCx c scope cl C s (fun b => Mut c σ α b ∨ b = D) = c'
  have O' : c'.Ok P k := by
    subst hcdef
    exact ⟨O.prog, O.w, hkind, O.glob, O.blt, O.globs B, O.hh, O.depth, O.units⟩
  have hprog : c'.prog = c.prog := by rw [← hcdef]
  have hw : c'.w = c.w := by rw [← hcdef]
  have hA : c'.A = c.A := by rw [← hcdef]
  have hloc : c'.env.locals = C := by rw [← hcdef]; rfl
  have hs0 : c'.s0 = s := by rw [← hcdef]
  have hmu : ∀ b, c'.mu b ↔ (Mut c σ α b ∨ b = D) := fun b => by rw [← hcdef]
  have hcells : ∀ y b, c'.env.cells.lookup y = some b → ∃ o, s.heap.get? b = some o := fun y b e => by
    rw [← hcdef] at e; exact B.cellAt (hcl3 y b e)
  have noOwn : ∀ n b, ¬ c'.ownCell n b := fun n b ⟨e, q⟩ => by
    obtain ⟨o, e'⟩ := hcells n b e
    rw [hs0, e'] at q; cases q
  have noσ : ∀ y t, σf.lookup y = some (.own t) → False := fun y t e => by obtain ⟨⟨_, z⟩, _⟩ := hσf.get y _ e; cases z
  have mutOld : ∀ b o, s₂.heap.get? b = some o → ¬ Mut c σ α b → ¬ Mut c' σf α b := fun b o e hn M => by
    rcases M with M | M | ⟨n, M⟩ | ⟨y, t, M, _⟩
    · exact ((hmu b).mp M).elim hn (ne₂ b o e).1
    · exact (ne₂ b o e).2 (M.trans hloc)
    · exact noOwn n b M
    · exact noσ y t M
  have B₂ := B.keeps K.heap
  have B' : Bd c' σf (fun y => ([] : List (Str × Value)).reverse.lookup y) α h₁ := by
    refine ⟨by rw [hloc]; exact hns₁, by rw [hloc, hs0]; exact nC, fun b o e => old b o (K.heap b o (by rw [← hs0]; exact e)), fun b M => ?_, fun n b M => (noOwn n b M).elim, fun n n' b M => (noOwn n b M).elim, fun y lv e => ?_, fun y t e => (noσ y t e).elim⟩
    · rcases (hmu b).mp M with M | rfl
      · obtain ⟨o, e⟩ := B₂.mutAt M; exact ⟨o, old b o e⟩
      · exact ⟨_, hacc⟩
    · obtain ⟨⟨t, rfl⟩, e1, e2, e3⟩ := hσf.get y lv e
      obtain ⟨v, Xh, r⟩ := B₂.val y _ e1
      refine ⟨v, .inr ?_, RT.imp (fun b o hn e => ⟨old b o e, mutOld b o e hn⟩) t v r⟩
      rcases Xh with ⟨z, _⟩ | ⟨z, a, ea, ca⟩
      · rw [z] at e3; rcases e3 with e3 | e3 <;> cases e3
      · refine ⟨?_, a, ?_, let ⟨o, q, d⟩ := ca; ⟨o, old _ _ q, d⟩⟩
        · rw [← hcdef]; exact (lookup_relabel_free e2).symm
        · rw [← hcdef]; exact (hcl y e2).trans ea
  have hxk : c'.env.kindOf x = some .local := by rw [← hcdef]; exact lookup_relabel_local hx
  have henv : c'.env = compEnvC scope cl C c.env := by rw [← hcdef]
  have loop : ∀ tk₀, codeAny (model c.prog c.w) c.A (.compLoop (.ListComp elt [⟨.Name x px, iter, ifs, 0⟩] scope pos) 0 (.ref I) (.ref D) (compEnvC scope cl C c.env)) (RR (.ref D) C) { s₂ with heap := h₁, toks := tk₀ } := by
    intro tk₀
    obtain ⟨h₂, tk₂, e₂, H₂⟩ := K
    refine codeAny_compLoop_tests (fun n s' => ∃ i h' tk m' ys nn, n = ts.length + 1 - i ∧ i ≤ ts.length ∧ s' = { s with heap := h', toks := tk } ∧ Bd c' σf m' α h' ∧ St i h' ∧ h'.get? D = some (sobj "list" ys nn) ∧
      RTs h' (Mut c' σf α) ((ts.take i).filterMap f) ys ∧ RTs h' (Mut c' σf α) ts vs ∧ ∀ b ∈ fp, ¬ Mut c' σf α b ∧ ∃ o, h'.get? b = some o) ?_ (ts.length + 1)
      ⟨0, h₁, tk₀, _, [], 0, rfl, Nat.zero_le _, by rw [e₂], B', W.frame _ _ _ hst fun b hb o e => old b o e, hacc, rfl, RTs.imp (fun b o hn e => ⟨old b o e, mutOld b o e hn⟩) _ _ R, fun b hb => ⟨let ⟨o, e⟩ := (hfp b hb).2; mutOld b o e (hfp b hb).1, let ⟨o, e⟩ := (hfp b hb).2; ⟨o, old b o e⟩⟩⟩
    rintro n s' ⟨i, h', tk, m', ys, nn, rfl, hi, rfl, Bi, hst', hD', Ry, Rv, hfp'⟩
    obtain ⟨oI, vI, hoI, hdI⟩ := hnf i h' hst'
    have step : ∀ h₁, (∀ b o, b ∉ [I] → h'.get? b = some o → h₁.get? b = some o) → Bd c' σf m' α h₁ ∧ h₁.get? D = some (sobj "list" ys nn) ∧ RTs h₁ (Mut c' σf α) ((ts.take i).filterMap f) ys ∧ RTs h₁ (Mut c' σf α) ts vs := fun h₁ hk => by
      have ne : ∀ b o, Dt o → h'.get? b = some o → b ≠ I := fun b o d e z => by
        subst z; rw [hoI] at e; cases e; exact d _ hdI
      have keepD : ∀ b o, Dt o → h'.get? b = some o → h₁.get? b = some o := fun b o d e => hk b o (by simpa using ne b o d e) e
      refine ⟨Bi.keepD keepD (fun b o e => ?_) fun b M => ?_, keepD _ _ (fun _ z => by cases z) hD', RTs.impD (fun b o d hn e => ⟨keepD b o d e, hn⟩) _ _ Ry, RTs.impD (fun b o d hn e => ⟨keepD b o d e, hn⟩) _ _ Rv⟩
      · have hb : b ≠ I := fun z => by
          subst z
          rw [hs0, hI] at e; cases e
        exact hk b o (by simpa using hb) (Bi.keep _ _ e)
      · rcases (hmu b).mp M with M' | rfl
        · obtain ⟨o₀, e₀⟩ := B.mutAt M'
          obtain ⟨o, e⟩ := Bi.muAt b M
          exact ⟨o, hk b o (by simpa using someNe e₀ hI) e⟩
        · exact ⟨_, keepD _ _ (fun _ z => by cases z) hD'⟩
    by_cases hlt : i < ts.length
    · refine W.item i _ _ _ hlt hst' fun v h₁ tk₁ hP hst₁ hk₁ => ?_
      obtain ⟨oI₁, _, hoI₁, _⟩ := hnf _ _ hst₁
      obtain ⟨B₁, hD₁, Ry₁, Rv₁⟩ := step h₁ hk₁
      obtain ⟨t, ht, hv⟩ := hp i v hP
      have hfp₁ : ∀ b ∈ fp, ¬ Mut c' σf α b ∧ ∃ o, h₁.get? b = some o := fun b hb => ⟨(hfp' b hb).1, by
        by_cases q : b = I
        · subst q; exact ⟨_, hoI₁⟩
        · obtain ⟨o, e⟩ := (hfp' b hb).2
          exact ⟨o, hk₁ b o (by simpa using q) e⟩⟩
      have tk' : (ts.take (i + 1)).filterMap f = (ts.take i).filterMap f ++ (f t).toList := by
        rw [List.take_add_one, ht, List.filterMap_append]
        cases hf : f t <;> simp [hf]
      refine wpAny_assign_Name (wpAny_storeName_local (by rw [← henv]; exact hxk) (by rw [show (compEnvC scope cl C c.env).locals = C from rfl, ← hloc]; exact B₁.ns) (fun h₃ hn₃ hs₃ => ?_) (by rw [show (compEnvC scope cl C c.env).scope.kind = .function from hkind]; rfl))
      replace hn₃ : h₃.Ns c'.env.locals (fun y => if y = x then some v else m' y) := by rw [hloc]; exact hn₃
      replace hs₃ : Heap.SameBut c'.env.locals h₁ h₃ := by rw [hloc]; exact hs₃
      have B₃ := B₁.setLocal hxk (hv _ _ Rv₁) hn₃ hs₃
      have up₃ : ∀ b o, ¬ Mut c' σf α b → h₁.get? b = some o → h₃.get? b = some o := fun b o hn e => (hs₃.2 b fun z => hn (.inr (.inl z))).trans e
      have hfp₃ : ∀ b ∈ fp, ¬ Mut c' σf α b ∧ ∃ o, h₃.get? b = some o := fun b hb => by
        obtain ⟨hn, o, e⟩ := hfp₁ b hb
        exact ⟨hn, o, up₃ b o hn e⟩
      have hst₃ : St (i + 1) h₃ := W.frame _ _ _ hst₁ fun b hb o e => up₃ b o (hfp₁ b hb).1 e
      have dropx : ∀ {h m}, Bd c' ((x, .tree t) :: σf) m α h → Bd c' σf m α h := fun Bq => Bq.sub fun y lv e => by
        rw [lookup_cons]
        split
        · rename_i z; subst z
          obtain ⟨_, _, q, _⟩ := hσf.get _ _ e
          rw [hx] at q; cases q
        · exact e
      have mx : ∀ b, Mut c' σf α b ↔ Mut c' ((x, .tree t) :: σf) α b := fun b => ⟨fun M => by
        rcases M with M | M | M | ⟨y, t', e, M⟩
        · exact .inl M
        · exact .inr (.inl M)
        · exact .inr (.inr (.inl M))
        · exact (noσ y t' e).elim, fun M => mut_cons_tree M⟩
      have hD₃ : h₃.get? D = some (sobj "list" ys nn) := (hs₃.2 D (by rw [hloc]; exact hDC)).trans hD₁
      have Ry₃ : RTs h₃ (Mut c' σf α) ((ts.take i).filterMap f) ys := RTs.imp (fun b o hn e => ⟨up₃ b o hn e, hn⟩) _ _ Ry₁
      have Rv₃ : RTs h₃ (Mut c' σf α) ts vs := RTs.imp (fun b o hn e => ⟨up₃ b o hn e, hn⟩) _ _ Rv₁
      have HEt := HE t (List.mem_of_getElem? ht) cl C s (fun b => Mut c σ α b ∨ b = D) (by rw [hcdef]; exact O')
      rw [hcdef] at HEt
      have hlast : ∀ h₅ tk₅ ys' nn', Bd c' σf (fun y => if y = x then some v else m' y) α h₅ → St (i + 1) h₅ → h₅.get? D = some (sobj "list" ys' nn') → RTs h₅ (Mut c' σf α) ((ts.take (i + 1)).filterMap f) ys' → RTs h₅ (Mut c' σf α) ts vs →
          (∀ b ∈ fp, ¬ Mut c' σf α b ∧ ∃ o, h₅.get? b = some o) → ∃ n', n' < ts.length + 1 - i ∧ ∃ i h' tk m' ys nn, n' = ts.length + 1 - i ∧ i ≤ ts.length ∧ ({ s with heap := h₅, toks := tk₅ } : Shared) = { s with heap := h', toks := tk } ∧ Bd c' σf m' α h' ∧ St i h' ∧ h'.get? D = some (sobj "list" ys nn) ∧
          RTs h' (Mut c' σf α) ((ts.take i).filterMap f) ys ∧ RTs h' (Mut c' σf α) ts vs ∧ ∀ b ∈ fp, ¬ Mut c' σf α b ∧ ∃ o, h'.get? b = some o := fun h₅ tk₅ ys' nn' a1 a2 a3 a4 a5 a6 =>
        ⟨ts.length + 1 - (i + 1), by omega, i + 1, h₅, tk₅, _, ys', nn', rfl, hlt, rfl, a1, a2, a3, a4, a5, a6⟩
      rcases HEt with ⟨hr, T⟩ | ⟨r', hr, T, EV⟩
      · simp only [TestsOK, hprog, hw, hA, henv] at T
        refine wpAny_mono (T _ _ α B₃ _) (fun ok s₄ h₄ => ?_) fun _ _ e => e
        obtain ⟨⟨h₄, tk₄, rfl, H₄⟩, rfl⟩ := h₄
        rw [if_neg (by simp)]
        refine hlast h₄ tk₄ ys nn (dropx (B₃.keeps H₄)) (W.frame _ _ _ hst₃ fun b _ o e => H₄ b o e) (H₄ _ _ hD₃) ?_ (Rv₃.keep H₄) fun b hb => ⟨(hfp₃ b hb).1, let ⟨o, e⟩ := (hfp₃ b hb).2; ⟨o, H₄ b o e⟩⟩
        rw [tk', hr]
        simpa using Ry₃.keep H₄
      · simp only [TestsOK, hprog, hw, hA, henv] at T
        simp only [EvOK, hprog, hw, hA, henv] at EV
        refine wpAny_mono (T _ _ α B₃ _) (fun ok s₄ h₄ => ?_) fun _ _ e => e
        obtain ⟨⟨h₄, tk₄, rfl, H₄⟩, rfl⟩ := h₄
        rw [if_pos rfl]
        have B₄ := B₃.keeps H₄
        refine wpAny_mono (EV { s with heap := h₄, toks := tk₄ } _ α B₄) (fun y s₅ h₅ => ?_) fun _ _ e => e.elim
        obtain ⟨⟨h₅, tk₅, rfl, H₅⟩, Rr⟩ := h₅
        have H : ∀ b o, h₃.get? b = some o → h₅.get? b = some o := fun b o e => H₅ b o (H₄ b o e)
        have B₅ := B₄.keeps H₅
        have hlen : ys.length ≤ ts.length := by
          rw [Ry₃.length]
          exact Nat.le_trans (List.length_filterMap_le _ _) (by rw [List.length_take]; exact Nat.min_le_right _ _)
        refine wpAny_list_append_plain (hsz := by rw [List.size_toArray]; exact Nat.le_trans hlen hsz) ⟨nn, H _ _ hD₃⟩ fun h₆ hl₆ hs₆ => ?_
        obtain ⟨n₆, hl₆⟩ := hl₆
        have hl₆' : h₆.get? D = some (sobj "list" (ys ++ [y]) n₆) := by simpa using hl₆
        have hDmu : c'.mu D := (hmu D).mpr (.inr rfl)
        have B₆ : Bd c' σf (fun y => if y = x then some v else m' y) α h₆ := (dropx B₅).touch hs₆ hDmu (by rw [hs0]; exact nD) (by rw [hloc]; exact hDC) (fun y' b e => by
          obtain ⟨o, e'⟩ := hcells y' b e
          exact someNe e' nD) noσ ⟨_, hl₆'⟩
        have fpD : ∀ b ∈ fp, b ≠ D := fun b hb z => (hfp₃ b hb).1 (z ▸ .inl hDmu)
        refine hlast h₆ tk₅ (ys ++ [y]) n₆ B₆ (W.frame _ _ _ hst₃ fun b hb o e => (hs₆.2 b (fpD b hb)).trans (H b o e)) hl₆' ?_ ((Rv₃.keep H).sameBut hs₆ (.inl hDmu)) fun b hb => ⟨(hfp₃ b hb).1, let ⟨o, e⟩ := (hfp₃ b hb).2; ⟨o, (hs₆.2 b (fpD b hb)).trans (H b o e)⟩⟩
        rw [tk', hr]
        exact ((Ry₃.keep H).sameBut hs₆ (.inl hDmu)).snoc ((Rr.weak fun b M => (mx b).mp M).sameBut hs₆ (.inl hDmu))
    · have hin : i = ts.length := by omega
      subst hin
      refine W.done _ _ _ hst' fun h₁ tk₁ hk₁ => ?_
      obtain ⟨B₁, hD₁, Ry₁, Rv₁⟩ := step h₁ hk₁
      rw [List.take_length] at Ry₁
      refine hRR D C h₁ tk₁ m' nD nC hDC (by rw [← hloc]; exact B₁.ns) ⟨ys, nn, hD₁, Ry₁.weak fun b M => ?_⟩ fun b o e => B₁.keep b o (by rw [hs0]; exact e)
      rcases M with M | M | M
      · exact .inl ((hmu b).mpr (.inl M))
      · exact .inl ((hmu b).mpr (.inr M))
      · exact .inr (.inl (M.trans hloc.symm))
  exact codeAny_compStart_list (loop _) (W.self 0 _ _ _ (W.frame _ _ _ hst fun b hb o e => old b o e) (loop _))

structure CompShape (c : Cx) (scope : Scope) (σf : Sg) (x : Str) : Prop where
  kind : scope.kind = .function
  loc : scope.names.lookup x = some .local
  cell : (scope.names.all fun p => p.2 != .cell) = true
  names : (scope.names.all fun p => p.2 != .local || scope.names.lookup p.1 == some .local) = true
  free : (scope.names.all fun p => p.2 != .free || (σf.lookup p.1).isSome) = true
theorem CompShape.hcell {scope : Scope} {σf : Sg} {x : Str} (H : CompShape c scope σf x) : ∀ y ∈ scope.names, y.2 ≠ .cell := fun y hy => by
  have := List.all_eq_true.mp H.cell y hy
  simpa using this
theorem CompShape.hnames {scope : Scope} {σf : Sg} {x : Str} (H : CompShape c scope σf x) : ∀ y ∈ scope.names, y.2 = .local → scope.names.lookup y.1 = some .local := fun y hy e => by
  have := List.all_eq_true.mp H.names y hy
  simpa [e] using this
theorem CompShape.clos {scope : Scope} {σf : Sg} {x : Str} (H : CompShape c scope σf x) (hσf : SfOK c σ scope σf) {h : Heap} (B : Bd c σ m α h) : ∀ p ∈ scope.names, p.2 = .free → ∃ a, c.env.cells.lookup p.1 = some a := fun p hp e => by
  have := List.all_eq_true.mp H.free p hp
  simp only [e, bne_self_eq_false, Bool.false_or] at this
  obtain ⟨lv, hl⟩ := Option.isSome_iff_exists.mp this
  obtain ⟨⟨t, rfl⟩, e1, e2, e3⟩ := hσf.get _ _ hl
  obtain ⟨v, X, _⟩ := B.val _ _ e1
  rcases X with ⟨z, _⟩ | ⟨_, a, ea, _⟩
  · rw [z] at e3; rcases e3 with e3 | e3 <;> cases e3
  · exact ⟨a, ea⟩

theorem new_comp (O : c.Ok P k) {elt iter : Expr} {x : Str} {px pos : Pos} {ifs : List Expr} {scope : Scope} {ts : List Tr} (σf : Sg) (f : Tr → Option Tr) (Hit : ItOK c σ iter ts) (hσf : SfOK c σ scope σf)
    (HE : ∀ t ∈ ts, CompEl c P k scope σf x ifs elt t (f t)) (hsz : ts.length ≤ sizeLine) (H : CompShape c scope σf x := by exact ⟨rfl, rfl, rfl, rfl, rfl⟩)
    (hs : ∀ x, foldedSetIterable iter c.env x = pure x := by intro _; rfl) : EvNew c σ (.ListComp elt [⟨.Name x px, iter, ifs, 0⟩] scope pos) (.list (ts.filterMap f)) := fun s m α B => by
  rw [eval_ListComp]
  obtain ⟨cl, hclos, h1, h2⟩ := closure_of (H.clos hσf B)
  refine wpAny_comprehension_free (use := none) rfl hs hclos H.kind H.hnames (wpAny_mono (Hit s m α B _) (fun xv s₁ h₁ => wpAny_mono h₁ (fun it s₂ X => ?_) fun _ _ e => e) fun _ _ e => e)
  refine comp_core O B H.hcell H.kind H.loc hσf h1 h2 HE hsz X (RR := fun acc C => compPost (model c.prog c.w) c.A _ none _ acc C) ?_
  intro D C h' tk m' nD nC hDC hn R hk
  refine ⟨m', hn, fun h'' hs'' => ⟨⟨h'', tk, rfl, fun b o e => (hs''.2 b (someNe e nC)).trans (hk b o e)⟩, D, rfl, nD, ?_⟩⟩
  exact OR.imp (fun o e => (hs''.2 _ hDC).trans e) (fun b o hn e => ⟨(hs''.2 b fun z => hn (.inr (.inr z))).trans e, fun M => hn (M.imp_right .inl)⟩) R

/-- a fresh object becomes a name's own; the frame alone is turned -/
theorem Bd.setOwn' {h₀ h' : Heap} (B₀ : Bd c σ m α h₀) (up : ∀ b o, b ≠ c.env.locals → h₀.get? b = some o → h'.get? b = some o) {x : Str} {t : Tr} {a : Addr} (hk : c.env.kindOf x = some .local) (ha : h₀.get? a = none)
    (hv : OR h' (fun b => Mut c σ α b ∨ b = a) a t) (hn : h'.Ns c.env.locals (fun y => if y = x then some (.ref a) else m y)) :
    Bd c ((x, .own t) :: σ) (fun y => if y = x then some (.ref a) else m y) (fun y => if y = x then a else α y) h' := by
  have ML : Mut c σ α c.env.locals := .inr (.inl rfl)
  have haL : a ≠ c.env.locals := Ne.symm (B₀.mutNe ML ha)
  have hNa : ∀ b, Mut c σ α b → b ≠ a := fun b M => B₀.mutNe M ha
  have upm : ∀ b, Mut c ((x, .own t) :: σ) (fun y => if y = x then a else α y) b → Mut c σ α b ∨ b = a := by
    intro b M
    rcases M with M | M | M | ⟨y, t', e, M⟩
    · exact .inl (.inl M)
    · exact .inl (.inr (.inl M))
    · exact .inl (.inr (.inr (.inl M)))
    · by_cases q : y = x
      · exact .inr (by simpa [q] using M.symm)
      · rw [lookup_cons, if_neg q] at e
        simp only [q, if_false] at M
        exact .inl (.inr (.inr (.inr ⟨y, t', e, M⟩)))
  have old : ∀ b o, ¬ Mut c σ α b → h₀.get? b = some o → h'.get? b = some o ∧ ¬ Mut c ((x, .own t) :: σ) (fun y => if y = x then a else α y) b := fun b o hn' e =>
    ⟨up b o (fun z => hn' (z ▸ ML)) e, fun M => (upm b M).elim hn' fun z => someNe e ha z⟩
  refine ⟨hn, B₀.above, fun b o e => up b o (someNe e B₀.above) (B₀.keep b o e), fun b M => ?_, fun n a e => ⟨(B₀.cells n a e).1, let ⟨v, o, q, d⟩ := (B₀.cells n a e).2; ⟨v, o, up _ _ (B₀.cells n a e).1 q, d⟩⟩, B₀.cinj, fun y lv e => ?_, fun y t' e => ?_⟩
  · by_cases q : b = c.env.locals
    · exact q ▸ nsAt hn
    · obtain ⟨o, e⟩ := B₀.muAt b M; exact ⟨o, up b o q e⟩
  · rw [lookup_cons] at e
    by_cases q : y = x
    · subst q
      rw [if_pos rfl] at e; cases e
      refine ⟨.ref a, .inl ⟨hk, by simp⟩, ?_⟩
      show _ ∧ OR _ _ (if y = y then a else α y) _
      rw [if_pos rfl]
      refine ⟨rfl, ?_⟩
      exact OR.imp (fun o e => e) (fun b o hn' e => ⟨e, fun M => hn' (upm b M)⟩) hv
    · rw [if_neg q] at e
      obtain ⟨w, X, r⟩ := B₀.val y lv e
      refine ⟨w, ?_, ?_⟩
      · rcases X with ⟨k, z⟩ | ⟨k, a, z, o, w', d⟩
        · exact .inl ⟨k, by simpa [q] using z⟩
        · exact .inr ⟨k, a, z, o, up _ _ (B₀.cellNe z) w', d⟩
      · simp only [q, if_false]
        exact r.imp (fun t' z o e' => by subst z; exact up _ _ (B₀.own y t' e).2.2.1 e') old
  · rw [lookup_cons] at e
    by_cases q : y = x
    · subst q
      simp only [if_true]
      refine ⟨?_, fun M => hNa a (.inl M) rfl, haL, fun n a' e' z => ?_, fun z t'' e' w => ?_⟩
      · cases q : c.s0.heap.get? a with
        | none => rfl
        | some o => rw [B₀.keep _ _ q] at ha; cases ha
      · exact hNa a' (.inr (.inr (.inl ⟨n, e'⟩))) z.symm
      · by_cases qz : z = y
        · exact qz.symm
        · rw [lookup_cons, if_neg qz] at e'
          simp only [qz, if_false] at w
          exact absurd w.symm (hNa _ (.inr (.inr (.inr ⟨z, t'', e', rfl⟩))))
    · rw [if_neg q] at e
      obtain ⟨a1, a1', a2, a3, a4⟩ := B₀.own y t' e
      simp only [q, if_false]
      refine ⟨a1, a1', a2, a3, fun z t'' e' w => ?_⟩
      by_cases qz : z = x
      · simp only [qz, if_true] at w
        exact absurd w (hNa _ (.inr (.inr (.inr ⟨y, t', e, rfl⟩))))
      · rw [lookup_cons, if_neg qz] at e'
        simp only [qz, if_false] at w
        exact a4 z t'' e' w

/-- y = [ .. for .. ], used at once -/
theorem st_assign_comp (O : c.Ok P k) {elt iter : Expr} {x y : Str} {px py pos spos : Pos} {ifs : List Expr} {scope : Scope} {ts : List Tr} {Φ : Fl → Prop} (σf : Sg) (f : Tr → Option Tr) (Hit : ItOK c σ iter ts) (hσf : SfOK c σ scope σf)
    (HE : ∀ t ∈ ts, CompEl c P k scope σf x ifs elt t (f t)) (hsz : ts.length ≤ sizeLine) (h : Φ (.next ((y, .own (.list (ts.filterMap f))) :: σ))) (H : CompShape c scope σf x := by exact ⟨rfl, rfl, rfl, rfl, rfl⟩)
    (hk : c.env.kindOf y = some .local := by rfl) (hs : ∀ x, foldedSetIterable iter c.env x = pure x := by intro _; rfl)
    (hsw : swapsWith (.ListComp elt [⟨.Name x px, iter, ifs, 0⟩] scope pos) (some (.Name y py)) spos.line c.env = pure true := by rfl) :
    StOK c σ (.Assign [.Name y py] (.ListComp elt [⟨.Name x px, iter, ifs, 0⟩] scope pos) spos) Φ := fun s m α B => by
  rw [exec_Assign_Name_used _ _ _ _ hsw]
  refine wpAny_bind (wpAny_standAt (wpAny_bind ?_))
  show wpAny _ _ (do let _ ← comprehension (.ListComp elt [⟨.Name x px, iter, ifs, 0⟩] scope pos) scope c.env _ (newList []) false (eval iter c.env) (some (assign (.Name y py) c.env))) _ _ s
  obtain ⟨cl, hclos, h1, h2⟩ := closure_of (H.clos hσf B)
  refine wpAny_bind (wpAny_mono (wpAny_comprehension_free (use := some (assign (.Name y py) c.env)) (Q := fun _ s' => Post c σ α s Φ .next s') rfl hs hclos H.kind H.hnames
    (wpAny_mono (Hit s m α B _) (fun xv s₁ h₁ => wpAny_mono h₁ (fun it s₂ X => ?_) fun _ _ e => e) fun _ _ e => e)) (fun _ s' hq => wpAny_pure (wpAny_pure hq)) fun _ _ e => e)
  refine comp_core O B H.hcell H.kind H.loc hσf h1 h2 HE hsz X (RR := fun acc C => compPost (model c.prog c.w) c.A _ (some (assign (.Name y py) c.env)) (fun _ s' => Post c σ α s Φ .next s') acc C) ?_
  intro D C h' tk m' nD nC hDC hn R hk'
  have K : Kp s { s with heap := h', toks := tk } := ⟨h', tk, rfl, hk'⟩
  have hLC : c.env.locals ≠ C := B.mutNe (.inr (.inl rfl)) nC
  have hLD : c.env.locals ≠ D := B.mutNe (.inr (.inl rfl)) nD
  have B₁ := B.keeps hk'
  show wpAny _ _ (assign (.Name y py) c.env (.ref D)) _ _ _
  refine wpAny_assign_Name (wpAny_storeName_local hk B₁.ns (fun h₂ hn₂ hs₂ => ?_) (notNs O))
  refine ⟨m', hn.sameBut hs₂ (Ne.symm hLC), fun h₃ hs₃ => ?_⟩
  -- the frame of the comprehension goes: to the facts nothing happens
  have up : ∀ b o, b ≠ c.env.locals → s.heap.get? b = some o → h₃.get? b = some o := fun b o hb e => (hs₃.2 b (someNe e nC)).trans ((hs₂.2 b hb).trans (hk' b o e))
  have hC₃ : Heap.SameBut c.env.locals h' h₂ := hs₂
  have hh₂ : ∀ b o, ¬ (Mut c σ α b ∨ b = D ∨ b = C) → h'.get? b = some o → h₃.get? b = some o := fun b o hn e =>
    (hs₃.2 b fun z => hn (.inr (.inr z))).trans ((hs₂.2 b fun z => hn (.inl (.inr (.inl z)))).trans e)
  have R₃ : OR h₃ (fun b => Mut c σ α b ∨ b = D) D (.list (ts.filterMap f)) :=
    OR.imp (fun o e => (hs₃.2 _ hDC).trans ((hs₂.2 _ (Ne.symm hLD)).trans e)) (fun b o hn e => ⟨hh₂ b o hn e, fun M => hn (M.imp_right .inl)⟩) R
  have hn₃ : h₃.Ns c.env.locals (fun z => if z = y then some (.ref D) else m z) := hn₂.sameBut hs₃ hLC
  refine ⟨h₃, _, _, _, _, rfl, B.setOwn' up hk nD R₃ hn₃, fun b o hn' e => ⟨up b o (fun z => hn' (.inr (.inl z))) e, ?_⟩, h⟩
  rintro (M | M | M | ⟨z, t', e', M⟩)
  · exact hn' (.inl M)
  · exact hn' (.inr (.inl M))
  · exact hn' (.inr (.inr (.inl M)))
  · by_cases q : z = y
    · simp only [q, if_true] at M
      exact someNe e nD M.symm
    · rw [lookup_cons, if_neg q] at e'
      simp only [q, if_false] at M
      exact hn' (.inr (.inr (.inr ⟨z, t', e', M⟩)))
end
end TL
end
/-! ### TLRd -/
section
open PySem PyProof.Rows
namespace TL
section
variable {c : Cx} {σ : Sg} {P : Pm} {k : Nat} {m : Str → Option Value} {α : Str → Addr}

noncomputable def tyOf : Tr → String
  | .none => "NoneType" | .bool _ => "bool" | .int _ => "int" | .str _ => "str" | .bytes _ => "bytes" | .type _ => "type" | .list _ => "list" | .tuple _ => "tuple" | .dict _ _ => "dict"
theorem RT.ty {s : Shared} {N : Addr → Prop} : ∀ {t : Tr} {v : Value}, RT s.heap N t v → (∀ n, t ≠ .type n) → s.TypeIs v (tyOf t)
  | .none, _, e, _ => by have e : _ = _ := e; subst e; rfl
  | .bool _, _, e, _ => by have e : _ = _ := e; subst e; rfl
  | .int _, _, ⟨t, e⟩, _ => by subst e; rfl
  | .str _, _, ⟨t, e⟩, _ => by subst e; rfl
  | .bytes _, _, ⟨t, e⟩, _ => by subst e; rfl
  | .type n, _, e, h => (h n rfl).elim
  | .list _, _, ⟨a, vs, n, e, _, hg, _⟩, _ => by subst e; exact ⟨_, hg, rfl⟩
  | .tuple _, _, ⟨a, vs, n, e, _, hg, _⟩, _ => by subst e; exact ⟨_, hg, rfl⟩
  | .dict _ _, _, ⟨a, es, vs, n, e, _, hg, _⟩, _ => by subst e; exact ⟨_, hg, rfl⟩

theorem c_type {t : Tr} (ht : ∀ n, t ≠ .type n) : CallOK c (.type "type") [t] (.type (tyOf t)) := fun s N vs hN R₀ => by
  obtain ⟨v, r, e, R, e2⟩ := R₀
  have e2 : r = [] := e2
  subst e e2
  exact call_type_of (R.ty ht) (by cases t <;> first | exact absurd rfl (ht _) | (simp only [tyOf]; decide +kernel)) ⟨Kp.rfl' s, rfl⟩
theorem c_isi_str_bytes {x : Str} : CallOK c (.builtin "isinstance") [.str x, .type "bytes"] (.bool false) := fun s N vs hN R₀ => by
  obtain ⟨v, r, e, ⟨t, e1⟩, v2, r2, e2, e3, e4⟩ := R₀
  have e4 : r2 = [] := e4
  have e3 : v2 = .type "bytes" := e3
  subst e e1 e2 e3 e4
  exact PySem.IsiPair.str_bytes ⟨(Kp.rfl' s).tks _, rfl⟩
theorem c_isi_int_bool {x : Int} : CallOK c (.builtin "isinstance") [.int x, .type "bool"] (.bool false) := fun s N vs hN R₀ => by
  obtain ⟨v, r, e, ⟨t, e1⟩, v2, r2, e2, e3, e4⟩ := R₀
  have e4 : r2 = [] := e4
  have e3 : v2 = .type "bool" := e3
  subst e e1 e2 e3 e4
  exact PySem.IsiPair.int_bool ⟨(Kp.rfl' s).tks _, rfl⟩

theorem kind_isn : builtinKind "issubclass.nested" = none := by decide +kernel
theorem plain_isn : plainId "issubclass.nested" = true := by decide +kernel
theorem args_isn (a b c : Value) : argsOk "issubclass.nested" ⟨[a, b, c], []⟩ := by unfold argsOk; kernel_rfl
theorem isn_self {T : String} (hty : typeOf (.type T) = pure (.type "type")) (hsub : isSubtype (.type T) (.type T) = pure true) (dep : Int) (tk : Tok) :
    Meets (Builtin.«issubclass.nested» ⟨[.type T, .type T, .int dep tk], []⟩) (fun _ R s => R (.ok (.ret (.bool true))) s) :=
  fun _ _ _ _ _ hs => by
    repeat (any_goals (first | assumption | wp_step))

theorem isn_tuple {T : String} {us cs : List Value} (hus : us = Value.type T :: cs) {tp : Addr} {nn : Nat} {tk : Tok} {prog : Program} {w : World} {A : Around} {E : Value → Shared → Prop} {s : Shared} {Q : Fin → Shared → Prop}
    (hty : typeOf (.type T) = pure (.type "type")) (hsub : isSubtype (.type T) (.type T) = pure true)
    (htp : s.heap.get? tp = some { cls := .type "tuple", data := .seq us.toArray nn }) (hq : ∀ tk', Q (.done (.ret (.bool true))) { s with toks := tk' }) :
    wpAny (model prog w) A (Builtin.«issubclass.nested» ⟨[.type T, .ref tp, .int 0 tk], []⟩) Q E s := by
  obtain ⟨h, g, d, t, os⟩ := s
  have hT2 : (⟨h, g, d, t, os⟩ : Shared).TypeIs (.ref tp) "tuple" := ⟨_, htp, rfl⟩
  have f1 := F.isi_sub_tuple
  repeat (any_goals (first | assumption | wp_step))
  refine wpAny_arrayLoop ?_
  simp only [Option.getD_some, List.toList_toArray]
  subst hus
  rw [List.forIn_cons]
  refine wpAny_bind (wpAny_bind (call_function_meets kind_isn plain_isn F.entry_issubclass_nested (args_isn _ _ _) (isn_self hty hsub _ _) ?_))
  show wpAny _ _ (truthy (.bool true) >>= _) _ _ _
  refine wpAny_bind (m := truthy (.bool true)) (wpAny_pure ?_)
  exact wpAny_bind (wpAny_pure (wpAny_pure (wpAny_pure (wpAny_pure (hq t)))))

theorem c_issub {T U : String} (hty : typeOf (.type T) = pure (.type "type")) (hsub : isSubtype (.type T) (.type T) = pure true) : CallOK c (.builtin "issubclass") [.type T, .tuple [.type T, .type U]] (.bool true) := fun s N vs hN R₀ => by
  obtain ⟨v, r, e, e0, v2, r2, e2, ⟨a, vs', n, e3, hna, hg, R⟩, e4⟩ := R₀
  have e4 : r2 = [] := e4
  have e0 : v = .type T := e0
  subst e e0 e2 e3 e4
  obtain ⟨v1, r1, rfl, h1, h2⟩ := R
  have h1 : v1 = .type T := h1
  subst h1
  exact call_issubclass (S := fun _ R s => s.heap.get? a = some (sobj "tuple" (Value.type T :: r1) n) ∧ ∀ tk, R (.ok (.ret (.bool true))) { s with toks := tk }) (fun _ _ _ _ _ hs => issubclass_outer (isn_tuple rfl hty hsub hs.1 hs.2)) ⟨hg, fun tk => ⟨(Kp.rfl' s).tks _, rfl⟩⟩
end
end TL
end
/-! ### TLRe -/
section
open PySem PyProof.Rows
namespace TL
section
variable {c : Cx} {σ : Sg} {P : Pm} {k : Nat} {m : Str → Option Value} {α : Str → Addr}

theorem RTs.ints {h : Heap} {N : Addr → Prop} : ∀ {ns : List Int} {vs : List Value}, RTs h N (intsT ns) vs → IntsAre vs ns
  | [], vs, R => by have R : vs = [] := R; subst R; exact .nil
  | n :: ns, _, ⟨v, r, rfl, ⟨t, e⟩, R⟩ => by subst e; exact .cons n t (RTs.ints R)
theorem rts_of_ints {h : Heap} {N : Addr → Prop} : ∀ {ns : List Int} {vs : List Value}, IntsAre vs ns → RTs h N (intsT ns) vs
  | _, _, .nil => rfl
  | _, _, .cons n t r => ⟨_, _, rfl, ⟨t, rfl⟩, rts_of_ints r⟩

theorem c_bytes (hh : c.A.handled = none) {ns : List Int} (hr : ∀ n ∈ ns, 0 ≤ n ∧ n < 256) (hz : ns.length ≤ sizeLine) : CallOK c (.type "bytes") [.list (intsT ns)] (.bytes (byteArr ns)) := fun s N vs hN R₀ => by
  obtain ⟨v, r, e, ⟨a, ws, n, e1, _, hg, R⟩, e2⟩ := R₀
  have e2 : r = [] := e2
  subst e e1 e2
  exact call_bytes_ints ⟨_, hg, rfl, n, rfl⟩ R.ints hr (by rw [R.length, intsT_len']; exact hz) hh fun h' t k hk => ⟨⟨h', k, rfl, hk⟩, t, rfl⟩
where
  intsT_len' {l : List Int} : (intsT l).length = l.length := by simp [intsT]

theorem c_sum (hh : c.A.handled = none) {ns : List Int} : CallOK c (.builtin "sum") [.list (intsT ns)] (.int ns.sum) := fun s N vs hN R₀ => by
  obtain ⟨v, r, e, ⟨a, ws, n, e1, _, hg, R⟩, e2⟩ := R₀
  have e2 : r = [] := e2
  subst e e1 e2
  have hi := R.ints
  obtain ⟨xs, hx⟩ := hi.allInts.items
  have hn : ns = xs.toList.map (·.1) := by rw [← nums_intItems, ← hx, show ws.toArray.toList = ws from rfl, hi.numsOf]
  refine sum_intListG hh (xs := xs) ⟨_, hg, rfl, n, by rw [← hx]⟩ fun h' tk t' hk => ⟨⟨h', tk, rfl, hk⟩, t', ?_⟩
  rw [preSum_eq, List.take_of_length_le (by simp), hn]

theorem c_max (hh : c.A.handled = none) {ns : List Int} {M : Int} (hM : M ∈ ns) (hM' : ∀ x ∈ ns, x ≤ M) : CallOK c (.builtin "max") [.list (intsT ns)] (.int M) := fun s N vs hN R₀ => by
  obtain ⟨v, r, e, ⟨a, ws, n, e1, _, hg, R⟩, e2⟩ := R₀
  have e2 : r = [] := e2
  subst e e1 e2
  have hi := R.ints
  obtain ⟨xs, hx⟩ := hi.allInts.items
  have hn : ns = xs.toList.map (·.1) := by rw [← nums_intItems, ← hx, show ws.toArray.toList = ws from rfl, hi.numsOf]
  have hsz : 0 < xs.size := by
    rcases Nat.eq_zero_or_pos xs.size with e | e
    · have : xs = #[] := Array.size_eq_zero_iff.mp e
      subst this; rw [hn] at hM; simp at hM
    · exact e
  have hnum : ∀ j, j < xs.size → numAt xs j ∈ ns := fun j hj => by
    rw [hn, List.mem_map]
    exact ⟨xs[j], by simp, by simp [numAt, hj]⟩
  refine max_intList hh (xs := xs) ⟨_, hg, rfl, n, by rw [← hx]⟩ hsz fun v h' tk hv hk => ⟨⟨h', tk, rfl, hk⟩, ?_⟩
  obtain ⟨b1, b2⟩ := argBest_gt (numAt xs) (xs.size - 1)
  obtain ⟨t, rfl⟩ := intItems_at hv
  refine ⟨t, ?_⟩
  congr 1
  apply Int.le_antisymm
  · exact hM' _ (hnum _ (by (first | lia | omega)))
  · rw [hn, List.mem_map] at hM
    obtain ⟨p, hp, rfl⟩ := hM
    obtain ⟨j, hj, rfl⟩ := Array.mem_iff_getElem.mp (by simpa using hp)
    have := b2 j (by (first | lia | omega))
    simpa [numAt, hj] using this

theorem c_sorted2 {x y : Int} : CallOK c (.builtin "sorted") [.list (intsT [x, y])] (.list (intsT [min x y, max x y])) := fun s N vs hN R₀ => by
  obtain ⟨v, r, e, ⟨a, ws, n, e1, _, hg, R⟩, e2⟩ := R₀
  have e2 : r = [] := e2
  subst e e1 e2
  have hi := R.ints
  refine sorted_ints (l := a) (vs := ws) ⟨_, hg, rfl, n, rfl⟩ hi (by rw [R.length]; simp [intsT]) fun out ns' h1 h2 h3 => ?_
  obtain ⟨e, he⟩ := sortedAll_at s.heap ws out
  have hns : ns' = [min x y, max x y] := by
    have hl := h2.length_eq
    match ns', hl with
    | [p, q], _ =>
      have h3 : p ≤ q := by simpa using h3
      have hp : p ∈ [x, y] := h2.mem_iff.mp (by simp)
      have hq : q ∈ [x, y] := h2.mem_iff.mp (by simp)
      have hx : x ∈ [p, q] := h2.symm.mem_iff.mp (by simp)
      have hy : y ∈ [p, q] := h2.symm.mem_iff.mp (by simp)
      simp only [List.mem_cons, List.not_mem_nil, or_false] at hp hq hx hy
      have e1 : p = min x y := by (first | lia | omega)
      have e2 : q = max x y := by (first | lia | omega)
      rw [e1, e2]
  subst hns
  have K : Kp s { s with heap := sortedAll s.heap ws out } := ⟨_, s.toks, rfl, fun b o => sortedAll_old⟩
  refine ⟨K, _, out.toList, e, rfl, fun M => ?_, by simpa using he, rts_of_ints h1⟩
  obtain ⟨o, q⟩ := hN _ M
  have := Heap.lt_size q
  exact absurd this (Nat.not_lt.mpr (Nat.le_succ _))
end
end TL
end
/-! ### TLRf -/
section
open PySem PyProof.Rows
namespace TL
open Builtin Builtin._codecs in
theorem enc_tree (x : Str) (t u : Tok) : «str.encode» ⟨[.str x t, .str (Str.ofString "ascii") u], []⟩ = (do ret (← encodeRoad "str.encode" (.str x t) x (Str.ofString "ascii") none)) := by kernel_rfl
open Builtin Builtin._codecs in
theorem enc_road (id : String) (self : Value) (x : Str) : encodeRoad id self x (Str.ofString "ascii") none = (do mkBytes (← encodeNarrow id asciiCodec none self x)) := by kernel_rfl
open Builtin Builtin._codecs in
theorem dec_road (id : String) (b : Array UInt8) : decodeRoad id b (Str.ofString "ascii") none [] = (runDecoder id asciiDecoder none true b 0 [] >>= fun r => mkStr ⟨r.1⟩) := by kernel_rfl
open Builtin Builtin._codecs in
theorem dec_entry {b : UInt8} {bs : List UInt8} {t u : Tok} : «bytes.decode» ⟨[.bytes (b :: bs).toArray t, .str (Str.ofString "ascii") u], []⟩ = (mkStr (Str.ofString "utf-8") >>= fun _ => mkStr (Str.ofString "ascii") >>= fun e => mkStr (Str.ofString "bytes.decode") >>= fun d =>
    call (.builtin "_codecs.decode.text") [.bytes (b :: bs).toArray t, e, .none, d] >>= fun v => ret v) := by kernel_rfl


theorem range_inv {β : Type} {n : Nat} {f : Nat → β → Sem (ForInStep β)} (st : Nat → β) (h : ∀ i, i < n → f i (st i) = pure (.yield (st (i + 1)))) : (forIn [:n] (st 0) f : Sem β) = pure (st n) := by
  rw [Std.Legacy.Range.forIn_eq_forIn_range']
  simp only [Std.Legacy.Range.size, Nat.sub_zero, Nat.add_sub_cancel, Nat.div_one]
  have gen : ∀ (m i : Nat), i + m = n → (forIn (List.range' i m) (st i) f : Sem β) = pure (st n) := by
    intro m
    induction m with
    | zero => intro i hi; have : i = n := by (first | lia | omega)
              subst this; rfl
    | succ m ih =>
      intro i hi
      rw [List.range'_succ, List.forIn_cons, h i (by (first | lia | omega)), pure_bind]
      exact ih (i + 1) (by (first | lia | omega))
  exact gen n 0 (by (first | lia | omega))
theorem range_two {β : Type} {n : Nat} {f : Nat → β → Sem (ForInStep β)} {b b' : β} (hn : 2 ≤ n) (h0 : f 0 b = pure (.yield b')) (h1 : f 1 b' = pure (.done b')) : (forIn [:n] b f : Sem β) = pure b' := by
  rw [Std.Legacy.Range.forIn_eq_forIn_range']
  simp only [Std.Legacy.Range.size, Nat.sub_zero, Nat.add_sub_cancel, Nat.div_one]
  obtain ⟨k, rfl⟩ : ∃ k, n = k + 2 := ⟨n - 2, by (first | lia | omega)⟩
  rw [List.range'_succ, List.range'_succ, List.forIn_cons, h0, pure_bind]
  show (forIn (_ :: _) b' f : Sem β) = _
  rw [List.forIn_cons, h1, pure_bind]

open Builtin Builtin._codecs in
theorem enc_narrow (id : String) (self : Value) (l : List Nat) (hl : 2 ≤ l.length) (hs : l.length ≤ 100) (h : ∀ x ∈ l, x < 128) : encodeNarrow id asciiCodec none self (S l) = pure (l.map fun x => x.toUInt8).toArray := by
  unfold encodeNarrow
  show (forIn [:(S l).length] ((0 : Nat), (#[] : Array UInt8), ({} : Faults)) _ >>= _) = _
  rw [range_two (b' := (l.length, (l.map fun x => x.toUInt8).toArray, ({} : Faults))) (by rw [len_S]; exact hl) ?_ ?_]
  · rfl
  · have hx : (S l).cps[0]? = some (l[0]'(by (first | lia | omega))) := by simp
    have hb : asciiCodec.bad (l[0]'(by (first | lia | omega))) = false := by
      have := h (l[0]'(by (first | lia | omega))) (List.getElem_mem _)
      simp [asciiCodec]; (first | lia | omega)
    have hr : ((S l).cps.extract 0) = (S l).cps := by simp
    have hf : Array.findIdx? asciiCodec.bad (S l).cps = none := by
      rw [Array.findIdx?_eq_none_iff]
      intro x hx
      have := h x (by simpa [S] using hx)
      simp [asciiCodec]; (first | lia | omega)
    have hsz : (S l).cps.size = l.length := by simp [S]
    dsimp only
    rw [if_neg (by simp)]
    simp only [hx, hb, hsz]
    rw [if_pos (by rfl : (!false) = true)]
    have hE : l.toArray.extract 0 l.length = l.toArray := by simp
    have hf' : Array.findIdx? asciiCodec.bad l.toArray = none := hf
    rw [hE, hf']
    simp only [Option.getD_none, List.size_toArray, hE, Nat.zero_add]
    have gen : ∀ (l : List Nat) (acc : Array UInt8), l.foldl (fun acc y => acc ++ (asciiCodec.bytesOf y).toArray) acc = acc ++ (l.map fun x => x.toUInt8).toArray := by
      intro l
      induction l with
      | nil => intro acc; simp
      | cons x l ih => intro acc; rw [List.foldl_cons, ih]; simp [asciiCodec]
    have := gen l #[]
    simp only [List.foldl_toArray', List.size_toArray] at this ⊢
    rw [this]; simp
  · dsimp only
    rw [if_neg (by simp; have : (100 : Nat) ≤ sizeLine := by decide
                   (first | lia | omega))]
    have hx : (S l).cps[l.length]? = none := by simp
    simp only [hx]
open Builtin Builtin._codecs in
theorem dec_run (id : String) (l : List UInt8) (hs : l.length ≤ 100) (h : ∀ x ∈ l, x.toNat < 128) : runDecoder id asciiDecoder none true l.toArray 0 [] = pure ((l.map fun x => x.toNat).toArray, l.length) := by
  unfold runDecoder
  show (forIn [:l.toArray.size] ((0 : Nat), (#[] : Array Nat), ({ held := [] } : Faults)) _ >>= _) = _
  rw [show ((0 : Nat), (#[] : Array Nat), ({ held := [] } : Faults)) = (fun i => (i, ((l.take i).map fun x => x.toNat).toArray, ({ held := [] } : Faults))) 0 from rfl, range_inv (n := l.toArray.size) (fun i => (i, ((l.take i).map fun x => x.toNat).toArray, ({ held := [] } : Faults))) ?_]
  · rw [List.size_toArray, List.take_length]; rfl
  · intro i hi
    have hi' : i < l.length := by simpa using hi
    dsimp only
    rw [if_neg (by simp; have : (100 : Nat) ≤ sizeLine := by decide
                   (first | lia | omega)), if_neg (by (first | lia | omega))]
    have hfind : asciiDecoder.find true l.toArray i = .text [(l[i]).toNat] (i + 1) := by
      have := h l[i] (List.getElem_mem _)
      simp [asciiDecoder, hi', this]
      rfl
    rw [hfind]
    simp only
    have ht : (l.take (i + 1)).map (fun x => x.toNat) = (l.take i).map (fun x => x.toNat) ++ [l[i].toNat] := by
      rw [List.take_add_one, List.getElem?_eq_getElem hi', List.map_append]; rfl
    rw [ht, List.append_toArray]
end TL
namespace TL
theorem args_dec2 (a b : Value) : argsOk "bytes.decode" ⟨[a, b], []⟩ := by
  unfold argsOk; rw [signature?_of (id := "bytes.decode") (n := "decode".toList.reverse) (o := "bytes".toList.reverse) (by kernel_rfl) PySem.W.FB.owner_bytes]; kernel_rfl
section
variable {c : Cx} {σ : Sg} {P : Pm} {k : Nat} {m : Str → Option Value} {α : Str → Addr}
open Builtin Builtin._codecs in
theorem meets_dec {l : List UInt8} {t t1 t2 : Tok} {d : Str} (hs : l.length ≤ 100) (h : ∀ x ∈ l, x.toNat < 128) :
    Meets («_codecs.decode.text» ⟨[.bytes l.toArray t, .str (Str.ofString "ascii") t1, .none, .str d t2], []⟩) (fun _ R s => R (.ok (.ret (.str (S (l.map fun x => x.toNat)) s.toks))) { s with toks := s.toks + 1 }) := by
  refine .of_wp fun prog w A R s hS => ?_
  have h100 : (100 : Nat) ≤ sizeLine := by decide
  show wpAny _ _ (Bytes.bytesLike _ (.bytes l.toArray t) >>= fun r => _) _ _ s
  refine wpAny_bind (wpAny_of_eq PySem.W.KBd.like_eq ?_)
  refine wpAny_bind (wpAny_of_eq PySem.W.KBd.held_eq ?_)
  show wpAny _ _ (decodeRoad _ l.toArray (Str.ofString "ascii") none [] >>= fun v => _) _ _ s
  rw [dec_road, dec_run _ l hs h]
  refine wpAny_bind (wpAny_bind (wpAny_pure ?_))
  exact wpAny_mkStr (wpAny_pure ⟨_, rfl, hS⟩) (by show (S (l.map fun x => x.toNat)).length ≤ _; rw [len_S, List.length_map]; (first | lia | omega))
theorem m_encode {x : Str} : MethOf (.str x) "encode" "str.encode" := fun ⟨t, e⟩ h => by subst e; exact PySem.GM.of (.str x t) (typeIs_str _ _ _) F.slot_str_encode F.type_str_encode PySem.GM.noRef h
theorem m_decode {x : Array UInt8} : MethOf (.bytes x) "decode" "bytes.decode" := fun ⟨t, e⟩ h => by subst e; exact PySem.W.KBd.method h
theorem c_encode {l : List Nat} (hl : 2 ≤ l.length) (hs : l.length ≤ 100) (h : ∀ x ∈ l, x < 128) : CallOK c (.builtin "str.encode") [.str (S l), .str (Str.ofString "ascii")] (.bytes (l.map fun x => x.toUInt8).toArray) := fun s N vs hN R₀ => by
  obtain ⟨v, r, e, ⟨t, e1⟩, v2, r2, e2, ⟨t2, e3⟩, e4⟩ := R₀
  subst e; have e4 : r2 = [] := e4; subst e1 e2 e3 e4
  refine wpAny_call_entry F.slot_str_encode (typeIs_str _ _ _) F.entry_str_encode ?_ (F.args_str_encode_2 _ _)
  have h100 : (100 : Nat) ≤ sizeLine := by decide
  rw [enc_tree, enc_road, enc_narrow _ _ _ hl hs h]
  refine wpAny_bind (wpAny_bind (wpAny_pure (wpAny_mkBytes ?_ (by simp; (first | lia | omega)))))
  exact wpAny_pure ⟨_, rfl, (Kp.rfl' s).tks _, _, rfl⟩
theorem c_decode {b : UInt8} {bs : List UInt8} (hs : (b :: bs).length ≤ 100) (h : ∀ x ∈ b :: bs, x.toNat < 128) : CallOK c (.builtin "bytes.decode") [.bytes (b :: bs).toArray, .str (Str.ofString "ascii")] (.str (S ((b :: bs).map fun x => x.toNat))) := fun s N vs hN R₀ => by
  obtain ⟨v, r, e, ⟨t, e1⟩, v2, r2, e2, ⟨t2, e3⟩, e4⟩ := R₀
  subst e; have e4 : r2 = [] := e4; subst e1 e2 e3 e4
  refine wpAny_call_entry PySem.W.FB.slot_bytes_decode (PySem.W.typeIs_bytes _ _ _) PySem.W.FB.entry_bytes_decode ?_ (args_dec2 _ _)
  have h100 : (100 : Nat) ≤ sizeLine := by decide
  rw [dec_entry]
  refine wpAny_bind (wpAny_mkStr ?_ (by decide))
  refine wpAny_bind (wpAny_mkStr ?_ (by decide))
  refine wpAny_bind (wpAny_mkStr ?_ (by decide))
  refine wpAny_bind (call_function_meets PySem.W.KBd.kind_text PySem.W.KBd.plain_text PySem.W.KBd.entry_text (PySem.W.KBd.args_text _ _ _ _) (meets_dec hs h) ?_)
  exact wpAny_pure ⟨_, rfl, (Kp.rfl' s).tks _, _, rfl⟩
end
end TL
end
/-! ### TLRg -/
section
open PySem PyProof.Rows
namespace TL
section
variable {c : Cx} {σ : Sg} {P : Pm} {k : Nat} {m : Str → Option Value} {α : Str → Addr}

theorem ev_call_kw1 (O : c.Ok P k) {d : Df} (hd : d ∈ P.defs) {np pos kp : Pos} {kn : Str} {e ke : Expr} {es : List Expr} {ts : List Tr} {r : Tr} {b : Bool} (hk : c.env.kindOf d.name = some .globalImplicit) (HA : ArgsOK c σ pos (e :: es) ts) (HK : EvOK c σ ke (.bool b))
    (H : FnOK P k d.name ts [(kn, .bool b)] r) (hdb : (d.name == ("__debug__" : Str)) = false := by decide) (he : starEach (e :: es) c.env = (false, eval e c.env) :: starEach es c.env := by rfl)
    (hall : (backToKw pos (keywordEach [⟨some kn, ke, kp⟩] c.env)).all (·.1.isSome) = true := by rfl) (hkw : (backToKw pos (keywordEach [⟨some kn, ke, kp⟩] c.env)).filterMap (·.1) = [kn] := by rfl) :
    EvOK c σ (.Call (.Name d.name np) (e :: es) [⟨some kn, ke, kp⟩] pos) r := fun s m α B => by
  obtain ⟨a, dV, kV, cdv, D⟩ := (O.globs B).defs d hd
  obtain ⟨oc, od, osl, doc, pm, an, ct, ho⟩ := D.obj
  refine wpAny_Call_Name_kw (name_global O B hk D.named ?_ hdb)
  refine callWith_function_kw (o := ⟨oc, od, .func (W.fnOf d.name d.name d.params d.body d.scope dV kV doc pm an cdv ct), osl⟩) (fd := W.fnOf d.name d.name d.params d.body d.scope dV kV doc pm an cdv ct) ?_
  refine evalArgs_kw2 hall ?_ he
  refine wpAny_mono (HA s m α B) (fun vs s₁ h => ?_) fun _ _ x => x.elim
  rw [hkw]
  have B₁ := B.keeps h.1.heap
  refine kwAll_cons (HK.then B₁ fun v s₂ K₂ B₂ R₂ => kwAll_nil ?_)
  have R₂ : v = .bool b := R₂
  subst R₂
  have K := h.1.trans' K₂
  refine ⟨⟨K.heap _ _ ho, rfl⟩, wpAny_call ?_⟩
  have HH := H c.A s₂ (Mut c σ α) vs a D.named (O.globs B₂) O.hh O.depth O.units (fun b M => B₂.mutAt M) (h.2.keep K₂.heap)
  rw [← O.prog, ← O.w] at HH
  refine codeAny_mono HH fun res s' h' => ?_
  obtain ⟨v, rfl, K', R⟩ := h'
  exact ⟨K.trans' K', R⟩

/-! texts joined -/
theorem ev_cat {l r : Expr} {pos : Pos} {a b : Str} (H₁ : EvOK c σ l (.str a)) (H₂ : EvOK c σ r (.str b)) (hs : a.length + b.length ≤ sizeLine) : EvOK c σ (.BinOp l .Add r pos) (.str (a ++ b)) :=
  ev_bin H₁ H₂ fun s m α B u v ⟨t, e⟩ ⟨t', e'⟩ => by subst e e'; exact PySem.SB.add (fun t' k => ⟨(Kp.rfl' s).tks _, _, rfl⟩) hs
theorem inp_cat {a b : Str} (hs : a.length + b.length ≤ sizeLine) : InpOK c .Add (.str a) (.str b) (.str (a ++ b)) := fun s N u v ⟨t, e⟩ ⟨t', e'⟩ => by subst e e'; exact PySem.SB.iadd (fun t' k => ⟨(Kp.rfl' s).tks _, _, rfl⟩) hs
end
end TL
end
/-! ### TLRh -/
section
open PySem PyProof.Rows
namespace TL

theorem pickL_map {α β : Type} (f : α → β) (l : List α) (lo hi st : Option Int) : pickL (l.map f) lo hi st = (pickL l lo hi st).map f := by
  unfold pickL
  rw [List.length_map, List.map_filterMap]
  congr 1
  funext i
  rw [List.getElem?_map]
theorem pickL_upto {α : Type} (l : List α) (b : Nat) : pickL l none (some (b : Int)) none = l.take b := by
  unfold pickL
  rw [sliceBounds_plain]
  simp only [Option.elim, clipAt_nat]
  rw [sliceRange_one]
  have := pick_run l.toArray 0 (min b l.length - 0)
  simp only [List.getElem?_toArray, List.drop_zero] at this
  rw [this]
  rw [Nat.sub_zero]
  rcases Nat.le_total b l.length with h | h
  · rw [Nat.min_eq_left h]
  · rw [Nat.min_eq_right h, List.take_of_length_le (Nat.le_refl _), List.take_of_length_le h]
theorem pickL_rev {α : Type} (l : List α) : pickL l none none (some (-1)) = l.reverse := by
  unfold pickL
  have e : sliceRange (sliceBounds none none (some (-1)) l.length).1 (sliceBounds none none (some (-1)) l.length).2.1 (sliceBounds none none (some (-1)) l.length).2.2 = (List.range l.length).map fun k => l.length - 1 - k := by
    show sliceRange ((l.length : Int) - 1) (-1) (-1) = _
    unfold sliceRange
    rw [if_neg (by decide)]
    by_cases h : l.length = 0
    · rw [h]; rfl
    · have : ((l.length : Int) - 1) > -1 := by (first | lia | omega)
      rw [if_pos this]
      have hn : ((((l.length : Int) - 1) - -1 - -1 - 1) / -(-1)).toNat = l.length := by simp
      show (List.range ((((l.length : Int) - 1) - -1 - -1 - 1) / -(-1)).toNat).map _ = _
      rw [hn]
      apply List.map_congr_left
      intro k hk
      rw [List.mem_range] at hk
      (first | lia | omega)
  rw [e]
  apply List.ext_getElem?
  intro i
  have : ((List.range l.length).map fun k => l.length - 1 - k).filterMap (l[·]?) = l.reverse := by
    rw [List.filterMap_map]
    apply List.ext_getElem?
    intro i
    have hall : ∀ ks : List Nat, (∀ k ∈ ks, k < l.length) → (ks.filterMap ((fun x => l[x]?) ∘ fun k => l.length - 1 - k))[i]? = (ks.map fun k => l[l.length - 1 - k]?)[i]?.bind id := by
      intro ks
      induction ks generalizing i with
      | nil => intro _; simp
      | cons k ks ih =>
        intro hk
        have hk0 := hk k (by simp)
        have hlt : l.length - 1 - k < l.length := by (first | lia | omega)
        have hf : ((fun x => l[x]?) ∘ fun k => l.length - 1 - k) k = some l[l.length - 1 - k] := by simp [hlt]
        rw [List.filterMap_cons, hf]
        cases i with
        | zero => simp [hlt]
        | succ i => simpa using ih i fun j hj => hk j (by simp [hj])
    rw [hall _ fun k hk => List.mem_range.mp hk]
    by_cases h : i < l.length
    · simp [h, List.getElem?_reverse h]
    · simp [h]
  rw [this]

noncomputable def strsT (l : List (List Nat)) : List Tr := l.map fun x => .str (S x)
theorem strsT_len (l : List (List Nat)) : (strsT l).length = l.length := by simp [strsT]
theorem strsT_get (l : List (List Nat)) (i : Nat) (h : i < l.length) : (strsT l)[i]? = some (.str (S (l.getD i []))) := by simp [strsT, h]

/-! ways -/
noncomputable def lay (w : List Nat) : List Nat := w.flatMap fun c => [c, 47]
theorem lay_cons (c : Nat) (w : List Nat) : lay (c :: w) = c :: 47 :: lay w := rfl
theorem lay_len (w : List Nat) : (lay w).length = 2 * w.length := by
  induction w with
  | nil => rfl
  | cons c w ih => rw [lay_cons]; simp [ih]; (first | lia | omega)

theorem slash_eq : ("/" : Str) = S [47] := by decide +kernel
theorem sw_slash (l : List Nat) (h : l.head? ≠ some 47) : Txt.startswith (S l) "/" = false := by
  rw [slash_eq]
  cases l with
  | nil => rfl
  | cons c l =>
    have hc : c ≠ 47 := fun z => h (by rw [z]; rfl)
    unfold Txt.startswith
    rw [Bool.and_eq_false_iff]; right
    unfold Builtin.Str.subAt
    have : (S (c :: l)).cps.extract 0 (0 + (S [47]).length) = #[c] := by simp [S, Str.length]
    rw [this]
    show (#[c] == #[47]) = false
    simp [hc]
theorem ew_slash (c : Nat) (h : c ≠ 47) : Txt.endswith (S [c]) "/" = false := by
  rw [slash_eq]
  unfold Txt.endswith
  rw [Bool.and_eq_false_iff]; right
  unfold Builtin.Str.subAt
  have : (S [c]).cps.extract ((S [c]).length - (S [47]).length) ((S [c]).length - (S [47]).length + (S [47]).length) = #[c] := by simp [S, Str.length]
  rw [this]
  show (#[c] == #[47]) = false
  simp [h]
theorem S_append (a b : List Nat) : S a ++ S b = S (a ++ b) := by
  show (⟨a.toArray ++ b.toArray⟩ : Str) = ⟨(a ++ b).toArray⟩
  rw [List.append_toArray]
end TL
end
/-! ### TLRi -/
section
open PySem PyProof.Rows
namespace TL
namespace MF
theorem slot_map_next : Slot "map" "__next__" "map.__next__" :=
  .of (owner := "map") (n := "__next__") (by rw [typeLookup_type, builtinLookup_eq_fast]; kernel_rfl) (by decide +kernel) (by decide +kernel) (by decide +kernel)
    (by first | exact .inl (by decide +kernel) | exact .inr (by decide +kernel)) (by rw [isSubtype_type]; kernel_rfl)
theorem slot_map_iter : Slot "map" "__iter__" "map.__iter__" :=
  .of (owner := "map") (n := "__iter__") (by rw [typeLookup_type, builtinLookup_eq_fast]; kernel_rfl) (by decide +kernel) (by decide +kernel) (by decide +kernel)
    (by first | exact .inl (by decide +kernel) | exact .inr (by decide +kernel)) (by rw [isSubtype_type]; kernel_rfl)
theorem slot_map_init : Slot "map" "__init__" "object.__init__" :=
  .of (owner := "object") (n := "__init__") (by rw [typeLookup_type, builtinLookup_eq_fast]; kernel_rfl) (by decide +kernel) (by decide +kernel) (by decide +kernel)
    (by first | exact .inl (by decide +kernel) | exact .inr (by decide +kernel)) (by rw [isSubtype_type]; kernel_rfl)
theorem entry_map_next : entryFor table "map.__next__" = some Builtin.«map.__next__» := by first | exact entryFor_of_tree (by kernel_rfl) | exact entryFor_of_fast (by kernel_rfl)
theorem entry_map_iter : entryFor table "map.__iter__" = some Builtin.«dict_keyiterator.__iter__» :=
  entryFor_alias (id' := "dict_keyiterator.__iter__") (by kernel_rfl) (by first | rfl | decide +kernel | (unfold String.splitOn; simp +decide [String.splitOnAux])) (by decide +kernel) (by kernel_rfl)
theorem entry_map_new : entryFor table "map.__new__" = some Builtin.«map.__new__» := by first | exact entryFor_of_tree (by kernel_rfl) | exact entryFor_of_fast (by kernel_rfl)
theorem args_map_next (a : Value) : argsOk "map.__next__" ⟨[a], []⟩ := by unfold argsOk; kernel_rfl
theorem args_map_iter (a : Value) : argsOk "map.__iter__" ⟨[a], []⟩ := by unfold argsOk; kernel_rfl
theorem mro_map : mroOf (.type "map") = pure [.type "map", .type "object"] := by rw [mroOf_type]; kernel_rfl
theorem lookup_map_new : typeLookup (.type "map") "__new__" = pure (some (.builtin "map.__new__")) := by rw [typeLookup_type, builtinLookup_eq_fast]; kernel_rfl
theorem called_map : TypeCalled "map" "map.__new__" "object.__init__" :=
  ⟨by decide +kernel, by decide +kernel, ⟨_, _, mro_map⟩, madeBy_type mro_map lookup_map_new (by decide +kernel), by decide +kernel, by rw [isSubtype_type]; kernel_rfl, slot_map_init⟩
theorem typeCall_map (a b : Value) : checkTypeCall "map" ⟨[a, b], []⟩ = pure () := by kernel_rfl
theorem newCall_map (a b : Value) : checkBuiltinCall "map.__new__" ⟨[.type "map", a, b], []⟩ = pure () := by kernel_rfl
theorem nolen_map : typeLookup (.type "map") "__len__" = pure none := by rw [typeLookup_type, builtinLookup_eq_fast]; kernel_rfl
theorem nohint_map : typeLookup (.type "map") "__length_hint__" = pure none := by rw [typeLookup_type, builtinLookup_eq_fast]; kernel_rfl
theorem sub_map : isSubtype (.type "map") (.type "map") = pure true := by rw [isSubtype_type]; kernel_rfl
end MF
open MF
section
variable {prog : Program} {w : World} {A : Around} {E : Value → Shared → Prop} {s : Shared}
theorem map_next_item {M T fa it l : Addr} {i : Nat} {items : Array Value} {x : Value} {Q : Option Value → Shared → Prop}
    (hM : s.heap.get? M = some { cls := .type "map", data := .fields #[.ref T, .ref fa] }) (hT : s.heap.get? T = some (sobj "tuple" [.ref it] 0)) (hit : s.heap.IsListIter it l i) (hl : s.heap.IsList l items) (hx : items[i]? = some x) (hne : M ≠ it)
    (hQ : ∀ h', h'.IsListIter it l (i + 1) → Heap.SameBut it s.heap h' → wpAny (model prog w) A.in1 (call (.ref fa) [x]) (fun v => Q (some v)) (fun _ _ => False) { s with heap := h' }) :
    wpAny (model prog w) A (pyNext (.ref M)) Q E s := by
  have hTy : s.TypeIs (.ref M) "map" := ⟨_, hM, rfl⟩
  unfold pyNext
  refine wpAny_bind (wpAny_attempt (wpAny_callSpecial?_slot (name := Str.ofString "__next__") hTy slot_map_next (wpAny_call_entry slot_map_next hTy entry_map_next ?_ (args_map_next _))))
  show wpAny _ _ (field (.ref M) 0 >>= _) _ _ s
  refine wpAny_bind (wpAny_field hM rfl (x := .ref T) rfl ?_)
  show wpAny _ _ (seqItems? (.ref T) >>= _) _ _ s
  refine wpAny_bind (wpAny_seqItems hT rfl ?_)
  refine wpAny_bind (wpAny_arrayLoop ?_)
  simp only [List.toList_toArray, List.forIn_cons, List.forIn_nil]
  refine wpAny_bind (wpAny_bind (wpAny_holding (wpAny_nextOf_list_item hit hl hx fun h' hit' hs' => ?_)))
  refine wpAny_pure (wpAny_pure ?_)
  have hM' : h'.get? M = _ := (hs'.2 M hne).trans hM
  refine wpAny_bind (wpAny_field (s := { s with heap := h' }) hM' rfl (x := .ref fa) rfl ?_)
  refine wpAny_bind (wpAny_holding (wpAny_mono (hQ h' hit' hs') (fun v s' hv => ?_) fun _ _ x => x.elim))
  refine wpAny_bind (wpAny_letGo ?_)
  exact wpAny_pure ⟨_, rfl, wpAny_pure hv⟩
theorem map_next_end {M T fa it l : Addr} {i : Nat} {items : Array Value} {Q : Option Value → Shared → Prop} (hh : A.handled = none)
    (hM : s.heap.get? M = some { cls := .type "map", data := .fields #[.ref T, .ref fa] }) (hT : s.heap.get? T = some (sobj "tuple" [.ref it] 0)) (hit : s.heap.IsListIter it l i) (hl : s.heap.IsList l items) (hx : items[i]? = none)
    (hQ : ∀ h', Heap.ExtBut it s.heap h' → Q none { s with heap := h' }) : wpAny (model prog w) A (pyNext (.ref M)) Q E s := by
  have hTy : s.TypeIs (.ref M) "map" := ⟨_, hM, rfl⟩
  unfold pyNext
  refine wpAny_bind (wpAny_attempt (wpAny_callSpecial?_slot (name := Str.ofString "__next__") hTy slot_map_next (wpAny_call_entry slot_map_next hTy entry_map_next ?_ (args_map_next _))))
  show wpAny _ _ (field (.ref M) 0 >>= _) _ _ s
  refine wpAny_bind (wpAny_field hM rfl (x := .ref T) rfl ?_)
  show wpAny _ _ (seqItems? (.ref T) >>= _) _ _ s
  refine wpAny_bind (wpAny_seqItems hT rfl ?_)
  refine wpAny_bind (wpAny_arrayLoop ?_)
  simp only [List.toList_toArray, List.forIn_cons, List.forIn_nil]
  refine wpAny_bind (wpAny_bind (wpAny_holding (wpAny_nextOf_list_end hh hit hl hx fun h' x he' hx' => ?_)))
  obtain ⟨o, ho, hc⟩ := hx'
  refine wpAny_bind (wpAny_isInstance (T := "StopIteration") (b := true) ⟨o, ho, hc⟩ isSubtype_stop ?_)
  exact wpAny_pure (hQ _ he')
theorem pyIter_map {M T fa : Addr} {Q : Value → Shared → Prop} (hM : s.heap.get? M = some { cls := .type "map", data := .fields #[.ref T, .ref fa] }) (h : Q (.ref M) s) : wpAny (model prog w) A (pyIter (.ref M)) Q E s := by
  have hT : s.TypeIs (.ref M) "map" := ⟨_, hM, rfl⟩
  refine wpAny_pyIter_slot hT slot_map_iter (wpAny_call_entry slot_map_iter hT entry_map_iter ?_ (args_map_iter _))
  show wpAny _ _ (ret (.ref M)) _ _ s
  exact wpAny_pure ⟨_, rfl, "map", _, hT, slot_map_next.lookup, h⟩

/-- map(f, l), l a list -/
theorem meets_map_new (f : Value) (l : Addr) (items : Array Value) (n : Nat) :
    Meets (Builtin.«map.__new__» ⟨[.type "map", f, .ref l], []⟩) (fun _ R s => s.heap.get? l = some { cls := .type "list", dict := none, data := .seq items n, slots := #[] } ∧
      R (.ok (.ret (.ref (s.heap.objs.size + 2)))) { s with heap := ((s.heap.push { cls := .type "list_iterator", data := .fields #[.ref l, .int 0 0] }).push { cls := .type "tuple", data := .seq #[.ref s.heap.objs.size] }).push { cls := .type "map", data := .fields #[.ref (s.heap.objs.size + 1), f] } }) :=
  .of_wp fun prog w A R s h => by
    obtain ⟨hp, g, d, tk, os⟩ := s; obtain ⟨hl, h⟩ := h
    have hsub := sub_map
    have hL : Heap.IsList (Shared.heap ⟨hp, g, d, tk, os⟩) l items := ⟨_, hl, rfl, n, rfl⟩
    wp_walk using AutoSeq1.wpAny_loadPart' hl, wpAny_pyIter_list hL
    refine ⟨_, rfl, ?_⟩
    simpa [Heap.size_push] using h

theorem collect_map {I : Addr} {fp wr : List Addr} {G : Array GenState → Array GenState → Prop} {n : Nat} {P : Nat → Value → Prop} {St : Nat → Shared → Prop} {Q : List Value → Shared → Prop} (W : WalksS prog w A.in1 I fp wr G n P St)
    (hT : ∀ i s, St i s → s.TypeIs (.ref I) "map") (hst : St 0 s) (hfp : ∀ b ∈ fp, b < s.heap.objs.size) (hI : I ∈ fp)
    (hQ : ∀ s' acc, Moved wr G s s' → ItemsOf P acc n → Q acc.toList s') (hn : n ≤ sizeLine) : wpAny (model prog w) A (collect (.ref I)) Q E s := by
  have hSf : s.heap.objs.size ∉ fp := fun hm => Nat.lt_irrefl _ (hfp _ hm)
  have hSI : s.heap.objs.size ≠ I := fun e => hSf (e ▸ hI)
  unfold collect
  refine wpAny_bind (wpAny_runValue (codeAny_builtin F.entry_proto_collect ?_))
  rw [Around.under_plainId F.plain_proto_collect _]
  show wpAny _ A.in1 (newList [] >>= fun l => again (.builtin "list.__iadd__" ⟨[l, .ref I], []⟩)) _ _ s
  refine wpAny_bind (wpAny_newObj_type ?_)
  refine wpAny_pure ⟨plainId_quiet F.plain_list_iadd _, codeAny_builtin F.entry_list_iadd ?_⟩
  rw [Around.under_plainId F.plain_list_iadd _]
  have hst₁ := W.frame 0 s (s.heap.push { cls := .type "list", data := .seq ([] : List Value).toArray }) s.toks hst (Nat.le_refl _) fun b _ o e => Heap.get?_push_of_some _ e
  show wpAny _ A.in1 (Builtin.List.listExtendWith (.ref s.heap.objs.size) (.ref I) (.ref s.heap.objs.size)) _ _ _
  unfold Builtin.List.listExtendWith
  refine wpAny_bind (wpAny_typeOf (hT 0 _ hst₁) ?_)
  have h1 : Builtin.List.listSameRef (.ref s.heap.objs.size) (.ref I) = false := by simp [Builtin.List.listSameRef, hSI]
  have h2 : (Value.type "map" == Value.type "list") = false := by decide
  have h3 : (Value.type "map" == Value.type "tuple") = false := by decide
  simp only [h1, h2, h3, Bool.or_false, Bool.false_eq_true, if_false]
  refine wpAny_bind (W.self 0 _ _ _ hst₁ ?_)
  refine wpAny_bind (wpAny_holding ?_)
  unfold Builtin.List.listLengthHint
  refine wpAny_bind (wpAny_specialOf (hT 0 _ hst₁) nolen_map ?_)
  show wpAny _ A.in1 (specialOf (Value.ref I) (Str.ofString "__length_hint__") >>= _) _ _ _
  refine wpAny_bind (wpAny_specialOf (hT 0 _ hst₁) nohint_map ?_)
  refine wpAny_pure ?_
  show wpAny _ A.in1 (rule "list.extend.makes-room" >>= fun _ => Builtin.List.listTouch (.ref s.heap.objs.size) >>= fun _ =>
    again (.builtin "list.extend.loop" ⟨[.ref s.heap.objs.size, .ref I, .ref s.heap.objs.size], []⟩)) _ _ _
  refine wpAny_bind (wpAny_rule ?_)
  have hS₁ : (s.heap.push { cls := .type "list", data := .seq ([] : List Value).toArray }).get? s.heap.objs.size = some { cls := .type "list", data := .seq ([] : List Value).toArray } := Heap.get?_push_size _ rfl
  refine wpAny_bind ?_
  show wpAny _ A.in1 (updateSeq s.heap.objs.size (·.push .none) >>= fun _ => updateSeq s.heap.objs.size (·.pop)) _ _ _
  refine wpAny_bind (wpAny_updateSeq hS₁ rfl ?_)
  have hS₂ := Heap.get?_update_self (Obj.mapSeq (·.push Value.none)) hS₁ rfl
  refine wpAny_updateSeq hS₂ rfl ?_
  have hS₃ := Heap.get?_update_self (Obj.mapSeq (·.pop)) hS₂ rfl
  have oth : ∀ b o, b ≠ s.heap.objs.size → (s.heap.push { cls := .type "list", data := .seq ([] : List Value).toArray }).get? b = some o →
      (((s.heap.push { cls := .type "list", data := .seq ([] : List Value).toArray }).update s.heap.objs.size (Obj.mapSeq (·.push Value.none))).update s.heap.objs.size (Obj.mapSeq (·.pop))).get? b = some o :=
    fun b o hb e => (Heap.get?_update_other _ _ (Ne.symm hb)).trans ((Heap.get?_update_other _ _ (Ne.symm hb)).trans e)
  refine wpAny_pure ⟨plainId_quiet F.plain_extend_loop _, codeAny_extend_loopS W hn _ hSf _ n 0 _ _ _ rfl (Nat.zero_le _)
    (W.frame 0 ({ s with heap := s.heap.push { cls := .type "list", data := .seq ([] : List Value).toArray } } : Shared) _ s.toks hst₁ (Nat.le_refl _) fun b hb o e => oth b o (fun h => hSf (h ▸ hb)) e) hS₃ (ItemsOf.nil P) fun s' acc' c' hm hS' hacc => ?_⟩
  show wpAny _ A (load s.heap.objs.size >>= _) _ _ s'
  refine wpAny_bind (wpAny_load hS' ?_)
  refine wpAny_pure (hQ s' acc' (Moved.drop_new (o := { cls := .type "list", data := .seq ([] : List Value).toArray }) (tk := s.toks) (Moved.trans W.gtrans ((Moved.refl W.grefl).then_heap (by first | exact Nat.le_refl _ | exact Nat.le_succ _ | omega) fun b o hb e => ?_) hm) (Nat.le_refl _)) hacc)
  exact oth b o (fun z => hb (z ▸ List.mem_cons_self)) e
end
end TL
end
/-! ### TLRj -/
section
open PySem PyProof.Rows
namespace TL
open MF
section
variable {prog : Program} {w : World} {A : Around} {E : Value → Shared → Prop} {s : Shared}
variable {I : Addr} {fp wr : List Addr} {G : Array GenState → Array GenState → Prop} {n : Nat} {P : Nat → Value → Prop} {St : Nat → Shared → Prop}

theorem tuple_new_map {Q₁ : Value → Shared → Prop} (W : WalksS prog w A.in1.in1 I fp wr G n P St) (hT : ∀ i s, St i s → s.TypeIs (.ref I) "map") (hst : St 0 s) (hfp : ∀ b ∈ fp, b < s.heap.objs.size) (hI : I ∈ fp)
    (h : ∀ s' acc, Moved wr G s s' → ItemsOf P acc n → Q₁ (.ref s'.heap.objs.size) { s' with heap := s'.heap.push { cls := .type "tuple", data := .seq acc } }) (hsz : n ≤ sizeLine) :
    codeAny (model prog w) A (.call (.builtin "tuple.__new__") ⟨[.type "tuple", .ref I], []⟩) (wants Q₁ E) s := by
  refine codeAny_of_tree ?_
  show wpAny _ A.in1 (do checkBuiltinCall "tuple.__new__" ⟨[.type "tuple", .ref I], []⟩; again (.builtin "tuple.__new__" ⟨[.type "tuple", .ref I], []⟩)) _ _ s
  refine wpAny_bind (wpAny_of_eq (F.newCall_tuple_1 _) (wpAny_pure ⟨plainId_quiet F.plain_tuple_new _, codeAny_builtin F.entry_tuple_new ?_⟩))
  rw [Around.under_plainId F.plain_tuple_new _]
  have hsub := sub_tuple_self
  have hinit := init_tuple_lookup
  have hmh := madeHere_tuple
  have hTI := hT 0 s hst
  wp_walk using wpAny_typeOf hTI, collect_map (hn := hsz) W hT hst hfp hI
  intro s' acc hm hacc
  show wpAny _ _ (Builtin.Tuple.tupleExact acc.toList.toArray >>= fun v => ret v) _ _ _
  unfold Builtin.Tuple.tupleExact
  refine wpAny_bind (wpAny_newObj_type ?_ (by show acc.toList.toArray.size ≤ sizeLine; simp only [Array.toArray_toList]; rw [hacc.1]; exact hsz))
  refine wpAny_pure ?_
  have e : acc.toList.toArray = acc := by simp
  rw [e]
  exact h s' acc hm hacc

theorem call_tuple_map {Q : Value → Shared → Prop} (W : WalksS prog w A.in1.in1.in1 I fp wr G n P St) (hT : ∀ i s, St i s → s.TypeIs (.ref I) "map") (hst : St 0 s) (hfp : ∀ b ∈ fp, b < s.heap.objs.size) (hI : I ∈ fp)
    (hQ : ∀ s' acc, Moved wr G s s' → ItemsOf P acc n → Q (.ref s'.heap.objs.size) { s' with heap := s'.heap.push { cls := .type "tuple", data := .seq acc } }) (hsz : n ≤ sizeLine) :
    wpAny (model prog w) A (call (.type "tuple") [.ref I]) Q E s := by
  refine callType_codes (Q₁ := fun obj s₁ => s₁.TypeIs obj "tuple" ∧ Q obj s₁) F.called_tuple (F.typeCall_tuple_1 _) F.entry_object_init
    (tuple_new_map (hsz := hsz) W hT hst hfp hI fun s' acc hm hacc => ⟨⟨_, Heap.get?_push_size _ rfl, rfl⟩, hQ s' acc hm hacc⟩) fun obj s₁ h₁ => ?_
  exact ⟨h₁.1, F.args_object_init_2 obj _, object_init_meets F.called_tuple.init.lookup F.called_tuple.made (by decide) prog w A.in1 _ s₁ ⟨h₁.1, rfl, h₁.2⟩⟩
end

section
variable {c : Cx} {σ : Sg} {P : Pm} {k : Nat} {m : Str → Option Value} {α : Str → Addr}

theorem rts_strs {h : Heap} {N : Addr → Prop} : ∀ {xs : List Str} {vs : List Value}, RTs h N (xs.map Tr.str) vs ↔ vs.length = xs.length ∧ ∀ (i : Nat) (v : Value), vs[i]? = some v → ∃ t, v = Value.str (xs.getD i Str.empty) t
  | [], vs => by
    constructor
    · intro R; have R : vs = [] := R; subst R; simp
    · rintro ⟨h, _⟩; exact List.length_eq_zero_iff.mp h
  | x :: xs, vs => by
    constructor
    · rintro ⟨v, r, rfl, ⟨t, e⟩, R⟩
      obtain ⟨h1, h2⟩ := rts_strs.mp R
      refine ⟨by simp [h1], fun i w hw => ?_⟩
      cases i with
      | zero => simp at hw; subst hw; exact ⟨t, by simpa using e⟩
      | succ i => simpa using h2 i w (by simpa using hw)
    · rintro ⟨h1, h2⟩
      cases vs with
      | nil => simp at h1
      | cons v r =>
        refine ⟨v, r, rfl, (by have := h2 0 v (by simp); simpa using this : ∃ t, v = Value.str x t), rts_strs.mpr ⟨by simpa using h1, fun i w hw => by simpa using h2 (i + 1) w (by simpa using hw)⟩⟩

/-- tuple(map(f, e)): f hands every text back -/
theorem ev_tuple_map (O : c.Ok P (k + 1)) {ft fm : Str} {np mp p1 p2 fp' : Pos} {e : Expr} {xs : List Str} {d : Df} (bt : Blt c P ft (.type "tuple")) (bm : Blt c P fm (.type "map")) (hd : d ∈ P.defs) (hk : c.env.kindOf d.name = some .globalImplicit)
    (He : EvOK c σ e (.list (xs.map .str))) (HF : ∀ x ∈ xs, FnOK P k d.name [.str x] [] (.str x)) (hsz : xs.length ≤ sizeLine) (hdb : (d.name == ("__debug__" : Str)) = false := by decide)
    (h1 : starEach [.Call (.Name fm mp) [.Name d.name fp', e] [] p2] c.env = (false, eval (.Call (.Name fm mp) [.Name d.name fp', e] [] p2) c.env) :: starEach [] c.env := by rfl)
    (h2 : starEach [.Name d.name fp', e] c.env = (false, eval (.Name d.name fp') c.env) :: starEach [e] c.env := by rfl) (h3 : starEach [e] c.env = (false, eval e c.env) :: starEach [] c.env := by rfl)
    (h4 : (backTo p2 (starEach [e] c.env)).any (·.1) = false := by rfl) :
    EvOK c σ (.Call (.Name ft np) [.Call (.Name fm mp) [.Name d.name fp', e] [] p2] [] p1) (.tuple (xs.map .str)) := fun s m α B => by
  refine wpAny_Call_ofName (name_builtin O B bt.kind bt.free bt.boot ?_ bt.notName bt.notDebug)
  refine callWith_type1 ?_ h1 rfl
  refine args_cons ?_ h1
  refine wpAny_Call_ofName (name_builtin O B bm.kind bm.free bm.boot ?_ bm.notName bm.notDebug)
  refine callWith_type1 ?_ h2 h4
  obtain ⟨fa, dV, kV, cdv, D⟩ := (O.globs B).defs d hd
  refine args_cons (name_global O B hk D.named ?_ hdb) h2
  refine args_cons (He.then B fun lv s₁ K₁ B₁ R => args_nil ?_) h3
  obtain ⟨l, vs, n, rfl, hnl, hgl, R⟩ := R
  obtain ⟨hlen, hit⟩ := rts_strs.mp R
  have hlen' : vs.length = xs.length := hlen
  refine callType_new called_map (by decide) (typeCall_map _ _) (newCall_map _ _) (fun obj => ?_) entry_map_new (meets_map_new (.ref fa) l vs.toArray n) ⟨hgl, ?_⟩
  · first | exact F.args_object_init_3 obj _ _ | (unfold argsOk; kernel_rfl)
  show _ ∧ _
  have hz1 : (s₁.heap.push { cls := .type "list_iterator", data := .fields #[.ref l, .int 0 0] }).objs.size = s₁.heap.objs.size + 1 := Heap.size_push ..
  have hz2 : ((s₁.heap.push { cls := .type "list_iterator", data := .fields #[.ref l, .int 0 0] }).push { cls := .type "tuple", data := .seq #[.ref s₁.heap.objs.size] }).objs.size = s₁.heap.objs.size + 2 := by rw [Heap.size_push, hz1]
  have hz3 : (((s₁.heap.push { cls := .type "list_iterator", data := .fields #[.ref l, .int 0 0] }).push { cls := .type "tuple", data := .seq #[.ref s₁.heap.objs.size] }).push { cls := .type "map", data := .fields #[.ref (s₁.heap.objs.size + 1), .ref fa] }).objs.size = s₁.heap.objs.size + 3 := by rw [Heap.size_push, hz2]
  have hM : (((s₁.heap.push { cls := .type "list_iterator", data := .fields #[.ref l, .int 0 0] }).push { cls := .type "tuple", data := .seq #[.ref s₁.heap.objs.size] }).push { cls := .type "map", data := .fields #[.ref (s₁.heap.objs.size + 1), .ref fa] }).get? (s₁.heap.objs.size + 2) = some { cls := .type "map", data := .fields #[.ref (s₁.heap.objs.size + 1), .ref fa] } := by
    rw [← hz2]; exact Heap.get?_push_size _ rfl
  have hT : (((s₁.heap.push { cls := .type "list_iterator", data := .fields #[.ref l, .int 0 0] }).push { cls := .type "tuple", data := .seq #[.ref s₁.heap.objs.size] }).push { cls := .type "map", data := .fields #[.ref (s₁.heap.objs.size + 1), .ref fa] }).get? (s₁.heap.objs.size + 1) = some (sobj "tuple" [.ref s₁.heap.objs.size] 0) :=
    Heap.get?_push_of_some _ (by rw [← hz1]; exact Heap.get?_push_size _ rfl)
  have hI : (((s₁.heap.push { cls := .type "list_iterator", data := .fields #[.ref l, .int 0 0] }).push { cls := .type "tuple", data := .seq #[.ref s₁.heap.objs.size] }).push { cls := .type "map", data := .fields #[.ref (s₁.heap.objs.size + 1), .ref fa] }).IsListIter s₁.heap.objs.size l 0 :=
    ⟨_, Heap.get?_push_of_some _ (Heap.get?_push_of_some _ (Heap.get?_push_size _ rfl)), rfl, rfl⟩
  have hold : ∀ b o, s₁.heap.get? b = some o → (((s₁.heap.push { cls := .type "list_iterator", data := .fields #[.ref l, .int 0 0] }).push { cls := .type "tuple", data := .seq #[.ref s₁.heap.objs.size] }).push { cls := .type "map", data := .fields #[.ref (s₁.heap.objs.size + 1), .ref fa] }).get? b = some o :=
    fun b o e => Heap.get?_push_of_some _ (Heap.get?_push_of_some _ (Heap.get?_push_of_some _ e))
  generalize (((s₁.heap.push { cls := .type "list_iterator", data := .fields #[.ref l, .int 0 0] }).push { cls := .type "tuple", data := .seq #[.ref s₁.heap.objs.size] }).push { cls := .type "map", data := .fields #[.ref (s₁.heap.objs.size + 1), .ref fa] }) = h₀ at hz3 hM hT hI hold ⊢
  refine ⟨⟨_, hM, rfl⟩, args_nil ?_⟩
  have K₁' := O.prog
  refine call_tuple_map (I := s₁.heap.objs.size + 2) (fp := List.range (s₁.heap.objs.size + 3)) (wr := [s₁.heap.objs.size]) (G := Eq) (n := xs.length) (P := fun i v => ∃ t, v = .str (xs.getD i Str.empty) t)
    (St := fun i s' => (∀ b o, b ≠ s₁.heap.objs.size → h₀.get? b = some o → s'.heap.get? b = some o) ∧ s'.heap.IsListIter s₁.heap.objs.size l i) ?_ ?_ ⟨fun b o _ e => e, hI⟩ ?_ ?_ ?_ hsz
  · have hlI : l ≠ s₁.heap.objs.size := Nat.ne_of_lt (Heap.lt_size hgl)
    have hl : ∀ s', (∀ b o, b ≠ s₁.heap.objs.size → h₀.get? b = some o → (Shared.heap s').get? b = some o) → s'.heap.IsList l vs.toArray := fun s' H => ⟨_, H _ _ hlI (hold _ _ hgl), rfl, n, rfl⟩
    refine ⟨fun b hb => ?_, fun _ => rfl, fun a b c h h' => h.trans h', fun i s' h' tk st htk hk => ⟨fun b o hb e => hk b ?_ o (st.1 b o hb e), ?_⟩, fun i s' Q E hi st hQ => ?_, fun s' Q E st hQ => ?_, fun i s' Q E st hQ => pyIter_map (st.1 (s₁.heap.objs.size + 2) _ (Nat.ne_of_gt (Nat.lt_succ_of_lt (Nat.lt_succ_self _))) hM) hQ⟩
    · rw [List.mem_singleton] at hb; subst hb; simp
    · rw [List.mem_range, ← hz3]; exact Heap.lt_size e
    · obtain ⟨o, ho, r⟩ := st.2; exact ⟨o, hk _ (by simp) o ho, r⟩
    · have hx : vs.toArray[i]? = some (vs[i]'(by (first | lia | omega))) := by simp
      refine wpAny_with_toks (n := s'.toks) (Nat.le_refl _) ?_
      refine map_next_item (M := s₁.heap.objs.size + 2) (T := s₁.heap.objs.size + 1) (it := s₁.heap.objs.size) (st.1 (s₁.heap.objs.size + 2) _ (Nat.ne_of_gt (Nat.lt_succ_of_lt (Nat.lt_succ_self _))) hM) (st.1 (s₁.heap.objs.size + 1) _ (Nat.ne_of_gt (Nat.lt_succ_self _)) hT) st.2 (hl s' st.1) hx (Nat.ne_of_gt (Nat.lt_succ_of_lt (Nat.lt_succ_self _))) fun h' hit' hs' => ?_
      obtain ⟨t, ht⟩ := hit i _ (List.getElem?_eq_getElem (by (first | lia | omega)))
      rw [ht]
      have hkeep : ∀ b o, s.heap.get? b = some o → h'.get? b = some o := fun b o e =>
        have e₁ := K₁.heap b o e
        have hb : b ≠ s₁.heap.objs.size := Nat.ne_of_lt (Heap.lt_size e₁)
        (hs'.2 b hb).trans (st.1 b o hb (hold b o e₁))
      have HH := HF (xs.getD i Str.empty) (by rw [List.getD_eq_getElem?_getD, List.getElem?_eq_getElem hi]; exact List.getElem_mem _) c.A.in1.in1.in1.in1 { s' with heap := h' } (fun _ => False) [.str (xs.getD i Str.empty) t] fa D.named ((O.globs B).keeps hkeep) O.hh
        (by have := O.depth; show c.A.depth + k < _; (first | lia | omega)) (by have := O.units; show c.A.units + 1 + 1 + 1 + 1 + 8 * k + 8 < _; (first | lia | omega)) (fun b hb => hb.elim) ⟨_, [], rfl, ⟨t, rfl⟩, rfl⟩
      rw [← O.prog, ← O.w] at HH
      refine wpAny_call (codeAny_mono HH fun res s'' h'' => ?_)
      obtain ⟨v, rfl, ⟨h₂, tk₂, e₂, H₂⟩, ⟨t', rfl⟩⟩ := h''
      intro htk
      refine hQ _ s'' ⟨t', rfl⟩ ⟨fun b o hb e => ?_, ?_⟩ ⟨fun b o hb e => ?_, ?_, ?_, ?_, htk⟩
      · rw [e₂]; exact H₂ b o ((hs'.2 b hb).trans (st.1 b o hb e))
      · rw [e₂]; obtain ⟨o, ho, r⟩ := hit'; exact ⟨o, H₂ _ _ ho, r⟩
      · rw [List.mem_singleton] at hb
        rw [e₂]; exact H₂ b o ((hs'.2 b hb).trans e)
      · rw [e₂]
      · rw [e₂]
      · rw [e₂]
    · refine wpAny_with_toks (n := s'.toks) (Nat.le_refl _) ?_
      refine map_next_end O.hh (st.1 (s₁.heap.objs.size + 2) _ (Nat.ne_of_gt (Nat.lt_succ_of_lt (Nat.lt_succ_self _))) hM) (st.1 (s₁.heap.objs.size + 1) _ (Nat.ne_of_gt (Nat.lt_succ_self _)) hT) st.2 (hl s' st.1) (by rw [List.getElem?_toArray, List.getElem?_eq_none_iff, hlen]; exact Nat.le_refl _) fun h' he htk => ?_
      exact hQ _ ⟨fun b o hb e => he b o (by simpa using hb) e, rfl, rfl, rfl, htk⟩
  · intro i s' st
    exact ⟨_, st.1 (s₁.heap.objs.size + 2) _ (Nat.ne_of_gt (Nat.lt_succ_of_lt (Nat.lt_succ_self _))) hM, rfl⟩
  · intro b hb
    show b < h₀.objs.size
    rw [hz3]; simpa using hb
  · simp
  · intro s' acc hm hacc
    obtain ⟨h', tk', e'⟩ : ∃ h' tk', s' = { s₁ with heap := h', toks := tk' } := ⟨s'.heap, s'.toks, by
      obtain ⟨a1, a2, a3, a4, a5⟩ := s'
      have g1 := hm.gens
      have g2 := hm.drawn
      have g3 := hm.os
      simp only at g1 g2 g3
      subst g1 g2 g3; rfl⟩
    subst e'
    have hkeep : ∀ b o, s.heap.get? b = some o → h'.get? b = some o := fun b o e =>
      have e₁ := K₁.heap b o e
      hm.heap b o (by rw [List.mem_singleton]; exact Nat.ne_of_lt (Heap.lt_size e₁)) (hold b o e₁)
    have K : Kp s { s₁ with heap := h'.push { cls := .type "tuple", data := .seq acc }, toks := tk' } := by
      obtain ⟨h₂, tk₂, rfl, _⟩ := K₁
      exact ⟨_, tk', rfl, fun b o e => Heap.get?_push_of_some _ (hkeep b o e)⟩
    have Bx := B.keeps hkeep
    refine ⟨K, _, acc.toList, 0, rfl, fun M => Bx.mutNe M (size_none _) rfl, ?_, ?_⟩
    · exact Heap.get?_push_size _ rfl
    · exact rts_strs.mpr ⟨by simpa using hacc.1, fun i v hv => hacc.2 i v (by simpa using hv)⟩
theorem ev_tuple_map' (O : c.Ok P (k + 1)) {ft fm fn : Str} {np mp p1 p2 fp' : Pos} {e : Expr} (xs : List Str) {d : Df} (hd : d ∈ P.defs) (hfn : d.name = fn) (HF : ∀ x ∈ xs, FnOK P k d.name [.str x] [] (.str x)) (bt : Blt c P ft (.type "tuple")) (bm : Blt c P fm (.type "map"))
    (He : EvOK c σ e (.list (xs.map .str))) (hsz : xs.length ≤ sizeLine) (hk : c.env.kindOf fn = some .globalImplicit := by rfl) (hdb : (fn == ("__debug__" : Str)) = false := by decide)
    (h1 : starEach [.Call (.Name fm mp) [.Name fn fp', e] [] p2] c.env = (false, eval (.Call (.Name fm mp) [.Name fn fp', e] [] p2) c.env) :: starEach [] c.env := by rfl)
    (h2 : starEach [.Name fn fp', e] c.env = (false, eval (.Name fn fp') c.env) :: starEach [e] c.env := by rfl) (h3 : starEach [e] c.env = (false, eval e c.env) :: starEach [] c.env := by rfl)
    (h4 : (backTo p2 (starEach [e] c.env)).any (·.1) = false := by rfl) :
    EvOK c σ (.Call (.Name ft np) [.Call (.Name fm mp) [.Name fn fp', e] [] p2] [] p1) (.tuple (xs.map .str)) := by
  subst hfn
  exact ev_tuple_map O bt bm hd hk He HF hsz hdb h1 h2 h3 h4
end
end TL
end
/-! ### TLRk -/
section
open PySem PyProof.Rows PySem.MeetsSeq PySem.MeetsSeq2 PySem.MeetsSeq3 PySem.SeqRoads2 PySem.SeqAt
namespace TL
open AutoSeq1 (wpAny_loadPart')

noncomputable def ltS (x y : Str) : Bool := decide (x.cps.toList < y.cps.toList)
noncomputable def lexL : List Str → List Str → Bool
  | x :: xs, y :: ys => if x == y then lexL xs ys else ltS x y
  | [], _ :: _ => true
  | _, [] => false
noncomputable def StrsAt (items : Array Value) (xs : List Str) : Prop := items.size = xs.length ∧ ∀ (i : Nat) (v : Value), items[i]? = some v → ∃ t, v = Value.str (xs.getD i Str.empty) t
theorem StrsAt.get {items : Array Value} {xs : List Str} (h : StrsAt items xs) {i : Nat} (hi : i < xs.length) : ∃ t, items[i]? = some (.str (xs.getD i Str.empty) t) := by
  have h1 : i < items.size := by rw [h.1]; exact hi
  obtain ⟨t, e⟩ := h.2 i items[i] (by simp [h1])
  exact ⟨t, by simp [h1, e]⟩
theorem StrsAt.none {items : Array Value} {xs : List Str} (h : StrsAt items xs) {i : Nat} (hi : xs.length ≤ i) : items[i]? = none := by
  rw [Array.getElem?_eq_none_iff, h.1]; exact hi

theorem lt_strR {prog : Program} {w : World} {A : Around} {E : Value → Shared → Prop} {s : Shared} {x y : Str} {t u : Tok} {Q : Value → Shared → Prop} (h : Q (.bool (ltS x y)) s) : wpAny (model prog w) A (richCompare .Lt (.str x t) (.str y u)) Q E s := PySem.P.lt_str h
theorem gt_strR {prog : Program} {w : World} {A : Around} {E : Value → Shared → Prop} {s : Shared} {x y : Str} {t u : Tok} {Q : Value → Shared → Prop} (h : Q (.bool (ltS y x)) s) : wpAny (model prog w) A (richCompare .Gt (.str x t) (.str y u)) Q E s := PySem.P.gt_str h

theorem lt_loopAt (l b : Addr) (items items2 : Array Value) (n n2 : Nat) (xs ys : List Str) (hx : StrsAt items xs) (hy : StrsAt items2 ys) (k : Nat) :
    ∀ i : Nat, i ≤ xs.length → i ≤ ys.length → xs.length - i = k → Meets (Builtin.«list.__eq__.loop» ⟨[.ref l, .ref b, rawInt i, rawInt 0], []⟩)
      (fun A R s => s.heap.get? l = some { cls := .type "list", data := .seq items n } ∧ s.heap.get? b = some { cls := .type "list", data := .seq items2 n2 } ∧
        R (.ok (.ret (.bool (lexL (xs.drop i) (ys.drop i))))) s) := by
  induction k with
  | zero =>
    intro i hi hi' hk prog w A R s h
    obtain ⟨hp, g, d, tk, os⟩ := s; obtain ⟨hl, hb, h⟩ := h
    wp_walk using wpAny_loadPart' hl, wpAny_loadPart' hb
    have e1 : items[((i : Nat) : Int).toNat]? = none := by rw [Int.toNat_natCast]; exact hx.none (by omega)
    have hd : xs.drop i = [] := by simp; omega
    rw [hd] at h
    rw [e1]
    wp_walk using wpAny_loadPart' hl, wpAny_loadPart' hb
    show R (.ok (.ret (.bool (decide (items.size < items2.size))))) _
    have hv : lexL [] (ys.drop i) = decide (items.size < items2.size) := by
      rw [hx.1, hy.1]
      cases hys : ys.drop i with
      | nil => have : ys.length ≤ i := by simpa using hys
               simp [lexL]; omega
      | cons y l => have : i < ys.length := by
                      rcases Nat.lt_or_ge i ys.length with z | z
                      · exact z
                      · rw [List.drop_of_length_le z] at hys; cases hys
                    simp [lexL]; omega
    rw [← hv]; exact h
  | succ k ih =>
    intro i hi hi' hk prog w A R s h
    obtain ⟨hp, g, d, tk, os⟩ := s; obtain ⟨hl, hb, h⟩ := h
    wp_walk using wpAny_loadPart' hl, wpAny_loadPart' hb
    have hlt : i < xs.length := by omega
    obtain ⟨t, e1⟩ := hx.get hlt
    have e1' : items[((i : Nat) : Int).toNat]? = some (.str (xs.getD i Str.empty) t) := by rw [Int.toNat_natCast]; exact e1
    have hd : xs.drop i = xs.getD i Str.empty :: xs.drop (i + 1) := by
      rw [List.drop_eq_getElem_cons hlt, List.getD_eq_getElem?_getD, List.getElem?_eq_getElem hlt]; rfl
    rw [hd] at h
    rw [e1']
    by_cases hlt2 : i < ys.length
    · obtain ⟨u, e2⟩ := hy.get hlt2
      have e2' : items2[((i : Nat) : Int).toNat]? = some (.str (ys.getD i Str.empty) u) := by rw [Int.toNat_natCast]; exact e2
      have hd2 : ys.drop i = ys.getD i Str.empty :: ys.drop (i + 1) := by
        rw [List.drop_eq_getElem_cons hlt2, List.getD_eq_getElem?_getD, List.getElem?_eq_getElem hlt2]; rfl
      have hc : ((i : Int) + 1) = ((i + 1 : Nat) : Int) := by push_cast; rfl
      rw [hd2] at h
      rw [e2']
      refine wpAny_bind (EqAt.str_str _ t _ u prog w _ _ ?_)
      cases hb' : (xs.getD i Str.empty == ys.getD i Str.empty) with
      | true =>
        have hb'' : (ys.getD i Str.empty == xs.getD i Str.empty) = true := by rw [beq_iff_eq] at hb' ⊢; exact hb'.symm
        simp only [lexL, hb', hb'', if_true] at h
        wp_walk
        rw [hc]
        exact ⟨plainId_quiet plain_eq_loop _, codeAny_builtin entry_eq_loop (by
          rw [Around.under_plainId plain_eq_loop _]
          exact ih (i + 1) (by omega) (by omega) (by omega) prog w A R _ ⟨hl, hb, h⟩)⟩
      | false =>
        have hb'' : (ys.getD i Str.empty == xs.getD i Str.empty) = false := by rw [beq_eq_false_iff_ne] at hb' ⊢; exact hb'.symm
        simp only [lexL, hb', hb'', Bool.false_eq_true, if_false] at h
        wp_walk using wpAny_loadPart' hl, wpAny_loadPart' hb
        rw [e1', e2']
        refine wpAny_bind ?_
        refine lt_strR (x := xs.getD i Str.empty) (y := ys.getD i Str.empty) (wpAny_pure h)
    · have e2' : items2[((i : Nat) : Int).toNat]? = none := by rw [Int.toNat_natCast]; exact hy.none (by omega)
      have hd2 : ys.drop i = [] := by simp; omega
      rw [hd2] at h
      rw [e2']
      wp_walk using wpAny_loadPart' hl, wpAny_loadPart' hb
      show R (.ok (.ret (.bool (decide (items.size < items2.size))))) _
      have hv : lexL (xs.getD i Str.empty :: xs.drop (i + 1)) [] = decide (items.size < items2.size) := by
        rw [hx.1, hy.1]
        simp [lexL]; omega
      rw [← hv]; exact h

theorem lt_list (l b : Addr) (items items2 : Array Value) (n n2 : Nat) (xs ys : List Str) (hx : StrsAt items xs) (hy : StrsAt items2 ys) :
    Meets (Builtin.«list.__lt__» ⟨[.ref l, .ref b], []⟩)
      (fun A R s => s.heap.get? l = some { cls := .type "list", data := .seq items n } ∧ s.heap.get? b = some { cls := .type "list", data := .seq items2 n2 } ∧
        R (.ok (.ret (.bool (lexL xs ys)))) s) := by
  intro prog w A R s h
  obtain ⟨hp, g, d, tk, os⟩ := s; obtain ⟨hl, hb, h⟩ := h
  have f3 := AutoSeq1.sub_list_list
  wp_walk using wpAny_loadPart' hl, wpAny_loadPart' hb
  exact ⟨plainId_quiet plain_eq_loop _, codeAny_builtin entry_eq_loop (by
    rw [Around.under_plainId plain_eq_loop _]
    exact lt_loopAt l b items items2 n n2 xs ys hx hy _ 0 (Nat.zero_le _) (Nat.zero_le _) rfl prog w A R _ ⟨hl, hb, by simpa using h⟩)⟩

theorem gt_loopAt (l b : Addr) (items items2 : Array Value) (n n2 : Nat) (xs ys : List Str) (hx : StrsAt items xs) (hy : StrsAt items2 ys) (k : Nat) :
    ∀ i : Nat, i ≤ xs.length → i ≤ ys.length → xs.length - i = k → Meets (Builtin.«list.__eq__.loop» ⟨[.ref l, .ref b, rawInt i, rawInt 4], []⟩)
      (fun A R s => s.heap.get? l = some { cls := .type "list", data := .seq items n } ∧ s.heap.get? b = some { cls := .type "list", data := .seq items2 n2 } ∧
        R (.ok (.ret (.bool (lexL (ys.drop i) (xs.drop i))))) s) := by
  induction k with
  | zero =>
    intro i hi hi' hk prog w A R s h
    obtain ⟨hp, g, d, tk, os⟩ := s; obtain ⟨hl, hb, h⟩ := h
    wp_walk using wpAny_loadPart' hl, wpAny_loadPart' hb
    have e1 : items[((i : Nat) : Int).toNat]? = none := by rw [Int.toNat_natCast]; exact hx.none (by omega)
    have hd : xs.drop i = [] := by simp; omega
    rw [hd] at h
    rw [e1]
    wp_walk using wpAny_loadPart' hl, wpAny_loadPart' hb
    show R (.ok (.ret (.bool (decide (items.size > items2.size))))) _
    have hv : lexL (ys.drop i) [] = decide (items.size > items2.size) := by
      rw [hx.1, hy.1]
      cases hys : ys.drop i with
      | nil => have : ys.length ≤ i := by simpa using hys
               simp [lexL]; omega
      | cons y l => have : i < ys.length := by
                      rcases Nat.lt_or_ge i ys.length with z | z
                      · exact z
                      · rw [List.drop_of_length_le z] at hys; cases hys
                    simp [lexL]; omega
    rw [← hv]; exact h
  | succ k ih =>
    intro i hi hi' hk prog w A R s h
    obtain ⟨hp, g, d, tk, os⟩ := s; obtain ⟨hl, hb, h⟩ := h
    wp_walk using wpAny_loadPart' hl, wpAny_loadPart' hb
    have hlt : i < xs.length := by omega
    obtain ⟨t, e1⟩ := hx.get hlt
    have e1' : items[((i : Nat) : Int).toNat]? = some (.str (xs.getD i Str.empty) t) := by rw [Int.toNat_natCast]; exact e1
    have hd : xs.drop i = xs.getD i Str.empty :: xs.drop (i + 1) := by
      rw [List.drop_eq_getElem_cons hlt, List.getD_eq_getElem?_getD, List.getElem?_eq_getElem hlt]; rfl
    rw [hd] at h
    rw [e1']
    by_cases hlt2 : i < ys.length
    · obtain ⟨u, e2⟩ := hy.get hlt2
      have e2' : items2[((i : Nat) : Int).toNat]? = some (.str (ys.getD i Str.empty) u) := by rw [Int.toNat_natCast]; exact e2
      have hd2 : ys.drop i = ys.getD i Str.empty :: ys.drop (i + 1) := by
        rw [List.drop_eq_getElem_cons hlt2, List.getD_eq_getElem?_getD, List.getElem?_eq_getElem hlt2]; rfl
      have hc : ((i : Int) + 1) = ((i + 1 : Nat) : Int) := by push_cast; rfl
      rw [hd2] at h
      rw [e2']
      refine wpAny_bind (EqAt.str_str _ t _ u prog w _ _ ?_)
      cases hb' : (xs.getD i Str.empty == ys.getD i Str.empty) with
      | true =>
        have hb'' : (ys.getD i Str.empty == xs.getD i Str.empty) = true := by rw [beq_iff_eq] at hb' ⊢; exact hb'.symm
        simp only [lexL, hb', hb'', if_true] at h
        wp_walk
        rw [hc]
        exact ⟨plainId_quiet plain_eq_loop _, codeAny_builtin entry_eq_loop (by
          rw [Around.under_plainId plain_eq_loop _]
          exact ih (i + 1) (by omega) (by omega) (by omega) prog w A R _ ⟨hl, hb, h⟩)⟩
      | false =>
        have hb'' : (ys.getD i Str.empty == xs.getD i Str.empty) = false := by rw [beq_eq_false_iff_ne] at hb' ⊢; exact hb'.symm
        simp only [lexL, hb', hb'', Bool.false_eq_true, if_false] at h
        wp_walk using wpAny_loadPart' hl, wpAny_loadPart' hb
        rw [e1', e2']
        refine wpAny_bind ?_
        refine gt_strR (x := xs.getD i Str.empty) (y := ys.getD i Str.empty) (wpAny_pure h)
    · have e2' : items2[((i : Nat) : Int).toNat]? = none := by rw [Int.toNat_natCast]; exact hy.none (by omega)
      have hd2 : ys.drop i = [] := by simp; omega
      rw [hd2] at h
      rw [e2']
      wp_walk using wpAny_loadPart' hl, wpAny_loadPart' hb
      show R (.ok (.ret (.bool (decide (items.size > items2.size))))) _
      have hv : lexL [] (xs.getD i Str.empty :: xs.drop (i + 1)) = decide (items.size > items2.size) := by
        rw [hx.1, hy.1]
        simp [lexL]; omega
      rw [← hv]; exact h

theorem gt_list (l b : Addr) (items items2 : Array Value) (n n2 : Nat) (xs ys : List Str) (hx : StrsAt items xs) (hy : StrsAt items2 ys) :
    Meets (Builtin.«list.__gt__» ⟨[.ref l, .ref b], []⟩)
      (fun A R s => s.heap.get? l = some { cls := .type "list", data := .seq items n } ∧ s.heap.get? b = some { cls := .type "list", data := .seq items2 n2 } ∧
        R (.ok (.ret (.bool (lexL ys xs)))) s) := by
  intro prog w A R s h
  obtain ⟨hp, g, d, tk, os⟩ := s; obtain ⟨hl, hb, h⟩ := h
  have f3 := AutoSeq1.sub_list_list
  wp_walk using wpAny_loadPart' hl, wpAny_loadPart' hb
  exact ⟨plainId_quiet plain_eq_loop _, codeAny_builtin entry_eq_loop (by
    rw [Around.under_plainId plain_eq_loop _]
    exact gt_loopAt l b items items2 n n2 xs ys hx hy _ 0 (Nat.zero_le _) (Nat.zero_le _) rfl prog w A R _ ⟨hl, hb, by simpa using h⟩)⟩
end TL
end
/-! ### TLRl -/
section
open PySem PyProof.Rows PySem.MeetsSeq PySem.MeetsSeq2 PySem.MeetsSeq3 PySem.SeqRoads2 PySem.SeqAt
namespace TL
section
variable {prog : Program} {w : World} {A : Around} {R : Result → Shared → Prop} {E : Value → Shared → Prop} {s : Shared}
theorem rc_lt {l b : Addr} {items items2 : Array Value} {n n2 : Nat} {xs ys : List Str} (hl : s.heap.get? l = some { cls := .type "list", data := .seq items n }) (hb : s.heap.get? b = some { cls := .type "list", data := .seq items2 n2 })
    (hx : StrsAt items xs) (hy : StrsAt items2 ys) (hu : A.units < cLine) {Q : Value → Shared → Prop} (h : Q (.bool (lexL xs ys)) s) : wpAny (model prog w) A (richCompare .Lt (.ref l) (.ref b)) Q E s :=
  richCompare_meets_room (op := .Lt) ⟨_, hl, rfl⟩ ⟨_, hb, rfl⟩ F.slot_list_lt F.entry_list_lt (F.args_list_lt_2 _ _) (lt_list l b items items2 n n2 xs ys hx hy)
    ⟨hl, hb, show Value.bool (lexL xs ys) ≠ Value.notImplemented ∧ Q (.bool (lexL xs ys)) s from ⟨(fun x => nomatch x), h⟩⟩ hu
theorem rc_gt {l b : Addr} {items items2 : Array Value} {n n2 : Nat} {xs ys : List Str} (hl : s.heap.get? l = some { cls := .type "list", data := .seq items n }) (hb : s.heap.get? b = some { cls := .type "list", data := .seq items2 n2 })
    (hx : StrsAt items xs) (hy : StrsAt items2 ys) (hu : A.units < cLine) {Q : Value → Shared → Prop} (h : Q (.bool (lexL ys xs)) s) : wpAny (model prog w) A (richCompare .Gt (.ref l) (.ref b)) Q E s :=
  richCompare_meets_room (op := .Gt) ⟨_, hl, rfl⟩ ⟨_, hb, rfl⟩ F.slot_list_gt F.entry_list_gt (F.args_list_gt_2 _ _) (gt_list l b items items2 n n2 xs ys hx hy)
    ⟨hl, hb, show Value.bool (lexL ys xs) ≠ Value.notImplemented ∧ Q (.bool (lexL ys xs)) s from ⟨(fun x => nomatch x), h⟩⟩ hu
end

section
variable {prog : Program} {w : World} {A : Around} {R : Result → Shared → Prop} {E : Value → Shared → Prop} {s : Shared}
/-- max of two things that are compared where they lie -/
theorem max_end {I S : Addr} {fp wr : List Addr} {n c : Nat} {P : Nat → Value → Prop} {St : Nat → Heap → Prop} {vb : Value} (W : Walks prog w A.in1 I fp wr n P St) (hSf : S ∉ fp) (hst : St n s.heap)
    (hS : s.heap.get? S = some { cls := .type "list", dict := none, data := .seq #[vb, vb] c, slots := #[] })
    (hR : ∀ h' tk, (∀ b o, b ∉ wr → b ≠ S → s.heap.get? b = some o → h'.get? b = some o) → R (.ok (.ret vb)) { s with heap := h', toks := tk }) :
    codeAny (model prog w) A (.builtin "max.loop" ⟨[.ref I, .none, .ref S], []⟩) R s := by
  have hSw : S ∉ wr := fun h => hSf (W.sub _ h)
  refine codeAny_builtin F.entry_max_loop ?_
  rw [Around.under_plainId F.plain_max_loop _]
  show wpAny _ A.in1 (seqItems? (.ref S) >>= _) _ _ s
  refine wpAny_bind (wpAny_seqItems hS rfl ?_)
  show wpAny _ A.in1 (tryCatch (pyNext (.ref I)) _ >>= _) _ _ s
  refine wpAny_bind (wpAny_tryCatch (W.done s _ _ hst fun h' tk hk' => ?_))
  have hS' := hk' S _ hSw hS
  show wpAny _ A.in1 (updateSeq S (fun _ => #[]) >>= _) _ _ _
  refine wpAny_bind ?_
  refine wpAny_updateSeq hS' rfl (wpAny_bind (wpAny_letGo (wpAny_pure ?_)))
  exact hR _ tk fun b o hbw hbS e => (Heap.get?_update_other _ _ (Ne.symm hbS)).trans (hk' b o hbw e)

theorem max_two {l : Addr} {v0 v1 : Value} {n : Nat} {bt : Bool} {Q : Value → Shared → Prop} (hh : A.handled = none) (hl : s.heap.get? l = some (sobj "list" [v0, v1] n))
    (hcmp : ∀ (s' : Shared) (Q : Value → Shared → Prop) (E : Value → Shared → Prop), (∀ b o, s.heap.get? b = some o → s'.heap.get? b = some o) → Q (.bool bt) s' → wpAny (model prog w) A.in1 (richCompare .Gt v1 v0) Q E s')
    (hQ : ∀ h' tk, (∀ b o, s.heap.get? b = some o → h'.get? b = some o) → Q (if bt then v1 else v0) { s with heap := h', toks := tk }) : wpAny (model prog w) A (call (.builtin "max") [.ref l]) Q E s := by
  have hname : (toString "max" ++ toString ".loop" : String) = "max.loop" := by decide
  have hlL : s.heap.IsList l #[v0, v1] := ⟨_, hl, rfl, n, rfl⟩
  refine call_function_tree F.kind_max F.plain_max F.entry_max (F.args_max1 _) ?_
  show wpAny _ A.in1 (Builtin.Builtins.bindParams "max" ["key", "default"] 0 ⟨[], []⟩ >>= _) _ _ s
  refine wpAny_bind (wpAny_of_eq (show Builtin.Builtins.bindParams "max" ["key", "default"] 0 ⟨[], []⟩ = pure [none, none] from rfl) ?_)
  refine wpAny_bind (wpAny_pure ?_)
  refine wpAny_bind (wpAny_pyIter_list hlL ?_)
  refine wpAny_bind (wpAny_newObj_type ?_)
  have hlI : l ≠ s.heap.objs.size := Nat.ne_of_lt (Heap.lt_size hl)
  have W := Walks.list (prog := prog) (w := w) (A := A.in1) hh s.heap.objs.size l hlI #[v0, v1]
  have hz : (s.heap.push { cls := .type "list_iterator", data := .fields #[.ref l, .int 0 0] }).objs.size = s.heap.objs.size + 1 := Heap.size_push ..
  have hSf : (s.heap.push { cls := .type "list_iterator", data := .fields #[.ref l, .int 0 0] }).objs.size ∉ [s.heap.objs.size, l] := by
    rw [hz]
    intro hm
    have hll := Heap.lt_size hl
    rcases List.mem_cons.mp hm with e | hm
    · exact Nat.succ_ne_self _ e
    · rw [List.mem_singleton] at hm
      exact absurd hll (by rw [← hm]; exact Nat.not_lt.mpr (Nat.le_succ _))
  have hst : (fun i h => h.IsListIter s.heap.objs.size l i ∧ h.IsList l #[v0, v1]) 0 ((s.heap.push { cls := .type "list_iterator", data := .fields #[.ref l, .int 0 0] }).push { cls := .type "list", dict := none, data := .seq ([] : List Value).toArray }) :=
    ⟨⟨_, Heap.get?_push_of_some _ (Heap.get?_push_size _ rfl), rfl, rfl⟩, ⟨_, Heap.get?_push_of_some _ (Heap.get?_push_of_some _ hl), rfl, n, rfl⟩⟩
  have hS : ((s.heap.push { cls := .type "list_iterator", data := .fields #[.ref l, .int 0 0] }).push { cls := .type "list", dict := none, data := .seq ([] : List Value).toArray }).get? ((s.heap.push { cls := .type "list_iterator", data := .fields #[.ref l, .int 0 0] }).objs.size) = some { cls := .type "list", dict := none, data := .seq #[] 0, slots := #[] } := Heap.get?_push_size _ rfl
  have hold : ∀ b o, s.heap.get? b = some o → ((s.heap.push { cls := .type "list_iterator", data := .fields #[.ref l, .int 0 0] }).push { cls := .type "list", dict := none, data := .seq ([] : List Value).toArray }).get? b = some o := fun b o e => Heap.get?_push_of_some _ (Heap.get?_push_of_some _ e)
  rw [hname]
  generalize ((s.heap.push { cls := .type "list_iterator", data := .fields #[.ref l, .int 0 0] }).push { cls := .type "list", dict := none, data := .seq ([] : List Value).toArray }) = h₀ at hst hS hold ⊢
  generalize (s.heap.push { cls := .type "list_iterator", data := .fields #[.ref l, .int 0 0] }).objs.size = S at hSf hS hz ⊢
  have hSI : S ≠ s.heap.objs.size := fun z => hSf (z ▸ List.mem_cons_self)
  have oldNe : ∀ b o, s.heap.get? b = some o → b ∉ [s.heap.objs.size] ∧ b ≠ S := fun b o e => by
    have := Heap.lt_size e
    refine ⟨by rw [List.mem_singleton]; exact Nat.ne_of_lt this, ?_⟩
    rw [hz]; exact Nat.ne_of_lt (Nat.lt_succ_of_lt this)
  have hSw : S ∉ [s.heap.objs.size] := by rw [List.mem_singleton]; exact hSI
  refine wpAny_pure ⟨plainId_quiet F.plain_max_loop _, ?_⟩
  -- the first
  refine codeAny_builtin F.entry_max_loop ?_
  rw [Around.under_plainId F.plain_max_loop _]
  show wpAny _ A.in1 (seqItems? (.ref S) >>= _) _ _ _
  refine wpAny_bind (wpAny_seqItems hS rfl ?_)
  show wpAny _ A.in1 (tryCatch (pyNext (.ref s.heap.objs.size)) _ >>= _) _ _ _
  refine wpAny_bind (wpAny_tryCatch (W.item 0 _ _ _ (by show 0 < 2; decide) hst fun v h₁ tk₁ hP hst₁ hk₁ => ?_))
  have hv : v = v0 := by simpa using hP.symm
  subst hv
  have hS₁ := hk₁ S _ hSw hS
  show wpAny _ A.in1 (updateSeq S (fun _ => #[v, v]) >>= _) _ _ _
  refine wpAny_bind ?_
  refine wpAny_updateSeq hS₁ rfl ?_
  rw [hname]
  have hS₂ := Heap.get?_update_self (Obj.mapSeq (fun _ => #[v, v])) hS₁ rfl
  have hup : ∀ b o, b ≠ S → h₁.get? b = some o → (h₁.update S (Obj.mapSeq (fun _ => #[v, v]))).get? b = some o := fun b o hb e => (Heap.get?_update_other _ _ (Ne.symm hb)).trans e
  have hst₂ := W.frame _ _ (h₁.update S (Obj.mapSeq (fun _ => #[v, v]))) hst₁ fun b hbf o e => hup b o (fun z => hSf (z ▸ hbf)) e
  have hold₂ : ∀ b o, s.heap.get? b = some o → (h₁.update S (Obj.mapSeq (fun _ => #[v, v]))).get? b = some o := fun b o e => hup b o (oldNe b o e).2 (hk₁ b o (oldNe b o e).1 (hold b o e))
  refine wpAny_pure ⟨plainId_quiet F.plain_max_loop _, ?_⟩
  -- the second
  refine codeAny_builtin F.entry_max_loop ?_
  rw [Around.under_plainId F.plain_max_loop _]
  show wpAny _ A.in1 (seqItems? (.ref S) >>= _) _ _ _
  refine wpAny_bind (wpAny_seqItems hS₂ rfl ?_)
  show wpAny _ A.in1 (tryCatch (pyNext (.ref s.heap.objs.size)) _ >>= _) _ _ _
  refine wpAny_bind (wpAny_tryCatch (W.item 1 _ _ _ (by show 1 < 2; decide) hst₂ fun u h₃ tk₃ hP₃ hst₃ hk₃ => ?_))
  have hu : u = v1 := by simpa using hP₃.symm
  subst hu
  have hS₃ := hk₃ S _ hSw hS₂
  have hold₃ : ∀ b o, s.heap.get? b = some o → h₃.get? b = some o := fun b o e => hk₃ b o (oldNe b o e).1 (hold₂ b o e)
  show wpAny _ A.in1 (tryCatch (holding [u, u] (richCompare .Gt u v >>= _)) _ >>= _) _ _ _
  refine wpAny_bind (wpAny_tryCatch (wpAny_holding (wpAny_bind (hcmp _ _ _ hold₃ ?_))))
  refine wpAny_bind (wpAny_holding (wpAny_truthy_bool ?_))
  refine wpAny_bind (wpAny_letGo (wpAny_pure ?_))
  cases bt with
  | true =>
    simp only [if_true] at hQ ⊢
    refine wpAny_bind ?_
    refine wpAny_updateSeq hS₃ rfl (wpAny_bind (wpAny_letGo ?_))
    rw [hname]
    refine wpAny_pure ⟨plainId_quiet F.plain_max_loop _, max_end W hSf (W.frame _ _ _ hst₃ fun b hbf o e => (Heap.get?_update_other _ _ (fun z : S = b => hSf (by rw [z]; exact hbf))).trans e) (Heap.get?_update_self _ hS₃ rfl) fun h' tk hk' => ?_⟩
    exact hQ h' tk fun b o e => hk' b o (oldNe b o e).1 (oldNe b o e).2 ((Heap.get?_update_other _ _ (Ne.symm (oldNe b o e).2)).trans (hold₃ b o e))
  | false =>
    simp only [Bool.false_eq_true, if_false] at hQ ⊢
    refine wpAny_bind (wpAny_letGo ?_)
    rw [hname]
    refine wpAny_pure ⟨plainId_quiet F.plain_max_loop _, max_end W hSf hst₃ hS₃ fun h' tk hk' => ?_⟩
    exact hQ h' tk fun b o e => hk' b o (oldNe b o e).1 (oldNe b o e).2 (hold₃ b o e)
end

section
variable {prog : Program} {w : World} {A : Around} {R : Result → Shared → Prop} {E : Value → Shared → Prop} {s : Shared}
/-- min of two things that are compared where they lie -/
theorem min_end {I S : Addr} {fp wr : List Addr} {n c : Nat} {P : Nat → Value → Prop} {St : Nat → Heap → Prop} {vb : Value} (W : Walks prog w A.in1 I fp wr n P St) (hSf : S ∉ fp) (hst : St n s.heap)
    (hS : s.heap.get? S = some { cls := .type "list", dict := none, data := .seq #[vb, vb] c, slots := #[] })
    (hR : ∀ h' tk, (∀ b o, b ∉ wr → b ≠ S → s.heap.get? b = some o → h'.get? b = some o) → R (.ok (.ret vb)) { s with heap := h', toks := tk }) :
    codeAny (model prog w) A (.builtin "min.loop" ⟨[.ref I, .none, .ref S], []⟩) R s := by
  have hSw : S ∉ wr := fun h => hSf (W.sub _ h)
  refine codeAny_builtin F.entry_min_loop ?_
  rw [Around.under_plainId F.plain_min_loop _]
  show wpAny _ A.in1 (seqItems? (.ref S) >>= _) _ _ s
  refine wpAny_bind (wpAny_seqItems hS rfl ?_)
  show wpAny _ A.in1 (tryCatch (pyNext (.ref I)) _ >>= _) _ _ s
  refine wpAny_bind (wpAny_tryCatch (W.done s _ _ hst fun h' tk hk' => ?_))
  have hS' := hk' S _ hSw hS
  show wpAny _ A.in1 (updateSeq S (fun _ => #[]) >>= _) _ _ _
  refine wpAny_bind ?_
  refine wpAny_updateSeq hS' rfl (wpAny_bind (wpAny_letGo (wpAny_pure ?_)))
  exact hR _ tk fun b o hbw hbS e => (Heap.get?_update_other _ _ (Ne.symm hbS)).trans (hk' b o hbw e)

theorem min_two {l : Addr} {v0 v1 : Value} {n : Nat} {bt : Bool} {Q : Value → Shared → Prop} (hh : A.handled = none) (hl : s.heap.get? l = some (sobj "list" [v0, v1] n))
    (hcmp : ∀ (s' : Shared) (Q : Value → Shared → Prop) (E : Value → Shared → Prop), (∀ b o, s.heap.get? b = some o → s'.heap.get? b = some o) → Q (.bool bt) s' → wpAny (model prog w) A.in1 (richCompare .Lt v1 v0) Q E s')
    (hQ : ∀ h' tk, (∀ b o, s.heap.get? b = some o → h'.get? b = some o) → Q (if bt then v1 else v0) { s with heap := h', toks := tk }) : wpAny (model prog w) A (call (.builtin "min") [.ref l]) Q E s := by
  have hname : (toString "min" ++ toString ".loop" : String) = "min.loop" := by decide
  have hlL : s.heap.IsList l #[v0, v1] := ⟨_, hl, rfl, n, rfl⟩
  refine call_function_tree F.kind_min F.plain_min F.entry_min (F.args_min1 _) ?_
  show wpAny _ A.in1 (Builtin.Builtins.bindParams "min" ["key", "default"] 0 ⟨[], []⟩ >>= _) _ _ s
  refine wpAny_bind (wpAny_of_eq (show Builtin.Builtins.bindParams "min" ["key", "default"] 0 ⟨[], []⟩ = pure [none, none] from rfl) ?_)
  refine wpAny_bind (wpAny_pure ?_)
  refine wpAny_bind (wpAny_pyIter_list hlL ?_)
  refine wpAny_bind (wpAny_newObj_type ?_)
  have hlI : l ≠ s.heap.objs.size := Nat.ne_of_lt (Heap.lt_size hl)
  have W := Walks.list (prog := prog) (w := w) (A := A.in1) hh s.heap.objs.size l hlI #[v0, v1]
  have hz : (s.heap.push { cls := .type "list_iterator", data := .fields #[.ref l, .int 0 0] }).objs.size = s.heap.objs.size + 1 := Heap.size_push ..
  have hSf : (s.heap.push { cls := .type "list_iterator", data := .fields #[.ref l, .int 0 0] }).objs.size ∉ [s.heap.objs.size, l] := by
    rw [hz]
    intro hm
    have hll := Heap.lt_size hl
    rcases List.mem_cons.mp hm with e | hm
    · exact Nat.succ_ne_self _ e
    · rw [List.mem_singleton] at hm
      exact absurd hll (by rw [← hm]; exact Nat.not_lt.mpr (Nat.le_succ _))
  have hst : (fun i h => h.IsListIter s.heap.objs.size l i ∧ h.IsList l #[v0, v1]) 0 ((s.heap.push { cls := .type "list_iterator", data := .fields #[.ref l, .int 0 0] }).push { cls := .type "list", dict := none, data := .seq ([] : List Value).toArray }) :=
    ⟨⟨_, Heap.get?_push_of_some _ (Heap.get?_push_size _ rfl), rfl, rfl⟩, ⟨_, Heap.get?_push_of_some _ (Heap.get?_push_of_some _ hl), rfl, n, rfl⟩⟩
  have hS : ((s.heap.push { cls := .type "list_iterator", data := .fields #[.ref l, .int 0 0] }).push { cls := .type "list", dict := none, data := .seq ([] : List Value).toArray }).get? ((s.heap.push { cls := .type "list_iterator", data := .fields #[.ref l, .int 0 0] }).objs.size) = some { cls := .type "list", dict := none, data := .seq #[] 0, slots := #[] } := Heap.get?_push_size _ rfl
  have hold : ∀ b o, s.heap.get? b = some o → ((s.heap.push { cls := .type "list_iterator", data := .fields #[.ref l, .int 0 0] }).push { cls := .type "list", dict := none, data := .seq ([] : List Value).toArray }).get? b = some o := fun b o e => Heap.get?_push_of_some _ (Heap.get?_push_of_some _ e)
  rw [hname]
  generalize ((s.heap.push { cls := .type "list_iterator", data := .fields #[.ref l, .int 0 0] }).push { cls := .type "list", dict := none, data := .seq ([] : List Value).toArray }) = h₀ at hst hS hold ⊢
  generalize (s.heap.push { cls := .type "list_iterator", data := .fields #[.ref l, .int 0 0] }).objs.size = S at hSf hS hz ⊢
  have hSI : S ≠ s.heap.objs.size := fun z => hSf (z ▸ List.mem_cons_self)
  have oldNe : ∀ b o, s.heap.get? b = some o → b ∉ [s.heap.objs.size] ∧ b ≠ S := fun b o e => by
    have := Heap.lt_size e
    refine ⟨by rw [List.mem_singleton]; exact Nat.ne_of_lt this, ?_⟩
    rw [hz]; exact Nat.ne_of_lt (Nat.lt_succ_of_lt this)
  have hSw : S ∉ [s.heap.objs.size] := by rw [List.mem_singleton]; exact hSI
  refine wpAny_pure ⟨plainId_quiet F.plain_min_loop _, ?_⟩
  -- the first
  refine codeAny_builtin F.entry_min_loop ?_
  rw [Around.under_plainId F.plain_min_loop _]
  show wpAny _ A.in1 (seqItems? (.ref S) >>= _) _ _ _
  refine wpAny_bind (wpAny_seqItems hS rfl ?_)
  show wpAny _ A.in1 (tryCatch (pyNext (.ref s.heap.objs.size)) _ >>= _) _ _ _
  refine wpAny_bind (wpAny_tryCatch (W.item 0 _ _ _ (by show 0 < 2; decide) hst fun v h₁ tk₁ hP hst₁ hk₁ => ?_))
  have hv : v = v0 := by simpa using hP.symm
  subst hv
  have hS₁ := hk₁ S _ hSw hS
  show wpAny _ A.in1 (updateSeq S (fun _ => #[v, v]) >>= _) _ _ _
  refine wpAny_bind ?_
  refine wpAny_updateSeq hS₁ rfl ?_
  rw [hname]
  have hS₂ := Heap.get?_update_self (Obj.mapSeq (fun _ => #[v, v])) hS₁ rfl
  have hup : ∀ b o, b ≠ S → h₁.get? b = some o → (h₁.update S (Obj.mapSeq (fun _ => #[v, v]))).get? b = some o := fun b o hb e => (Heap.get?_update_other _ _ (Ne.symm hb)).trans e
  have hst₂ := W.frame _ _ (h₁.update S (Obj.mapSeq (fun _ => #[v, v]))) hst₁ fun b hbf o e => hup b o (fun z => hSf (z ▸ hbf)) e
  have hold₂ : ∀ b o, s.heap.get? b = some o → (h₁.update S (Obj.mapSeq (fun _ => #[v, v]))).get? b = some o := fun b o e => hup b o (oldNe b o e).2 (hk₁ b o (oldNe b o e).1 (hold b o e))
  refine wpAny_pure ⟨plainId_quiet F.plain_min_loop _, ?_⟩
  -- the second
  refine codeAny_builtin F.entry_min_loop ?_
  rw [Around.under_plainId F.plain_min_loop _]
  show wpAny _ A.in1 (seqItems? (.ref S) >>= _) _ _ _
  refine wpAny_bind (wpAny_seqItems hS₂ rfl ?_)
  show wpAny _ A.in1 (tryCatch (pyNext (.ref s.heap.objs.size)) _ >>= _) _ _ _
  refine wpAny_bind (wpAny_tryCatch (W.item 1 _ _ _ (by show 1 < 2; decide) hst₂ fun u h₃ tk₃ hP₃ hst₃ hk₃ => ?_))
  have hu : u = v1 := by simpa using hP₃.symm
  subst hu
  have hS₃ := hk₃ S _ hSw hS₂
  have hold₃ : ∀ b o, s.heap.get? b = some o → h₃.get? b = some o := fun b o e => hk₃ b o (oldNe b o e).1 (hold₂ b o e)
  show wpAny _ A.in1 (tryCatch (holding [u, u] (richCompare .Lt u v >>= _)) _ >>= _) _ _ _
  refine wpAny_bind (wpAny_tryCatch (wpAny_holding (wpAny_bind (hcmp _ _ _ hold₃ ?_))))
  refine wpAny_bind (wpAny_holding (wpAny_truthy_bool ?_))
  refine wpAny_bind (wpAny_letGo (wpAny_pure ?_))
  cases bt with
  | true =>
    simp only [if_true] at hQ ⊢
    refine wpAny_bind ?_
    refine wpAny_updateSeq hS₃ rfl (wpAny_bind (wpAny_letGo ?_))
    rw [hname]
    refine wpAny_pure ⟨plainId_quiet F.plain_min_loop _, min_end W hSf (W.frame _ _ _ hst₃ fun b hbf o e => (Heap.get?_update_other _ _ (fun z : S = b => hSf (by rw [z]; exact hbf))).trans e) (Heap.get?_update_self _ hS₃ rfl) fun h' tk hk' => ?_⟩
    exact hQ h' tk fun b o e => hk' b o (oldNe b o e).1 (oldNe b o e).2 ((Heap.get?_update_other _ _ (Ne.symm (oldNe b o e).2)).trans (hold₃ b o e))
  | false =>
    simp only [Bool.false_eq_true, if_false] at hQ ⊢
    refine wpAny_bind (wpAny_letGo ?_)
    rw [hname]
    refine wpAny_pure ⟨plainId_quiet F.plain_min_loop _, min_end W hSf hst₃ hS₃ fun h' tk hk' => ?_⟩
    exact hQ h' tk fun b o e => hk' b o (oldNe b o e).1 (oldNe b o e).2 (hold₃ b o e)
end

section
variable {c : Cx} {σ : Sg} {P : Pm} {k : Nat} {m : Str → Option Value} {α : Str → Addr}
theorem strsAt_of {h : Heap} {N : Addr → Prop} {xs : List Str} {vs : List Value} (R : RTs h N (xs.map Tr.str) vs) : StrsAt vs.toArray xs := by
  obtain ⟨h1, h2⟩ := rts_strs.mp R
  exact ⟨by simpa using h1, fun i v hv => h2 i v (by simpa using hv)⟩
theorem c_max_lists (O : c.Ok P k) {xs ys : List Str} : CallOK c (.builtin "max") [.list [.list (xs.map .str), .list (ys.map .str)]] (.list ((if lexL xs ys then ys else xs).map .str)) := fun s N vs hN R₀ => by
  obtain ⟨v, r, e, ⟨a, ws, n, e1, _, hg, R⟩, e2⟩ := R₀
  have e2 : r = [] := e2
  subst e e1 e2
  obtain ⟨v0, r0, rfl, R0, v1, r1, rfl, R1, e3⟩ := R
  have e3 : r1 = [] := e3
  subst e3
  have R0' := R0
  have R1' := R1
  obtain ⟨l, us, n0, rfl, _, hl, Rl⟩ := R0
  obtain ⟨b, ws, n1, rfl, _, hb, Rb⟩ := R1
  refine max_two (bt := lexL xs ys) O.hh hg (fun s' Q E hk hq => rc_gt (hk _ _ hb) (hk _ _ hl) (strsAt_of Rb) (strsAt_of Rl) (by have := O.units; show c.A.units + 1 < _; omega) hq) fun h' tk hk => ⟨⟨h', tk, rfl, hk⟩, ?_⟩
  cases lexL xs ys with
  | true => exact R1'.keep hk
  | false => exact R0'.keep hk
theorem c_min_lists (O : c.Ok P k) {xs ys : List Str} : CallOK c (.builtin "min") [.list [.list (xs.map .str), .list (ys.map .str)]] (.list ((if lexL ys xs then ys else xs).map .str)) := fun s N vs hN R₀ => by
  obtain ⟨v, r, e, ⟨a, ws, n, e1, _, hg, R⟩, e2⟩ := R₀
  have e2 : r = [] := e2
  subst e e1 e2
  obtain ⟨v0, r0, rfl, R0, v1, r1, rfl, R1, e3⟩ := R
  have e3 : r1 = [] := e3
  subst e3
  have R0' := R0
  have R1' := R1
  obtain ⟨l, us, n0, rfl, _, hl, Rl⟩ := R0
  obtain ⟨b, ws, n1, rfl, _, hb, Rb⟩ := R1
  refine min_two (bt := lexL ys xs) O.hh hg (fun s' Q E hk hq => rc_lt (hk _ _ hb) (hk _ _ hl) (strsAt_of Rb) (strsAt_of Rl) (by have := O.units; show c.A.units + 1 < _; omega) hq) fun h' tk hk => ⟨⟨h', tk, rfl, hk⟩, ?_⟩
  cases lexL ys xs with
  | true => exact R1'.keep hk
  | false => exact R0'.keep hk
end
end TL
end
/-! ### TLRm -/
section
open PySem PyProof.Rows PySem.SeqAt
namespace TL
section
variable {prog : Program} {w : World} {A : Around} {E : Value → Shared → Prop} {s : Shared}
theorem pyHash_false {Q : Int → Shared → Prop} (h : Q 0 { s with toks := s.toks + 1 }) : wpAny (model prog w) A (pyHash (.bool false)) Q E s := by
  have hT : s.TypeIs (.bool false) "bool" := rfl
  unfold pyHash
  have hv : [Value.bool false].any Value.onHeap = false := rfl
  refine wpAny_bind ?_
  rw [cRoomFor, if_neg (by rw [hv]; exact Bool.false_ne_true)]; refine wpAny_pure ?_
  refine wpAny_bind (wpAny_specialOf hT F.slot_bool_hash.lookup ?_)
  show wpAny _ _ (if (some (Value.builtin "int.__hash__") == some Value.none) = true then _ else _) Q E s
  rw [if_neg (by rw [beq_builtin_none]; exact Bool.false_ne_true)]
  refine wpAny_bind (wpAny_specialOf hT F.slot_bool_hash.lookup ?_)
  show wpAny _ _ (callSpecialIfBoundUnlessNone? (.bool false) "__hash__" _ >>= _) Q E s
  refine wpAny_bind (wpAny_callSpecialIfBoundUnlessNone?_slot hT F.slot_bool_hash
    (wpAny_call_entry F.slot_bool_hash hT entry_int_hash
      (show wpAny _ _ (do ret (← mkInt 0)) _ _ s from wpAny_ret_mkInt ?_) (args_int_hash _)))
  show wpAny _ _ (if (decide (-(2 : Int) ^ 63 ≤ (0 : Int)) && decide ((0 : Int) < 2 ^ 63)) = true then _ else _) Q E _
  rw [if_pos (by decide)]
  exact wpAny_pure h

noncomputable abbrev setOne (led : Bool) (ep : Nat) : Obj := { cls := .type "set", data := .set #[(0, .bool false)] ep { mask := 7, place := #[0], dummies := #[], finger := 0, led := led, moves := 0, plain := true } }
noncomputable abbrev setNil (led : Bool) : Obj := { cls := .type "set", data := .set #[] 0 (.fresh 0 0 led) }
theorem lay_false (led : Bool) : layNew (.fresh 0 0 led) #[] 0 (.bool false) = (#[(0, .bool false)], { mask := 7, place := #[0], dummies := #[], finger := 0, led := led, moves := 0, plain := true }, false, false) := by
  cases led <;> decide +kernel

theorem call_add {a : Addr} {Q : Value → Shared → Prop} (hT : s.TypeIs (.ref a) "set") (h : wpAny (model prog w) A.in1 (setAddHashed a (.bool false) 0) (fun _ s' => Q .none s') (fun e s' => E e s') { s with toks := s.toks + 1 }) :
    wpAny (model prog w) A (call (.builtin "set.add") [.ref a, .bool false]) Q E s := by
  refine wpAny_call_entry F.slot_set_add hT F.entry_set_add ?_ (F.args_set_add_2 _ _)
  unfold Builtin.«set.add» Builtin.Frozenset.oneOther
  simp only [List.isEmpty_nil, bind_assoc]
  unfold Builtin.Frozenset.addrOf setAdd
  refine wpAny_bind (wpAny_pure ?_)
  try dsimp only
  refine wpAny_bind (wpAny_pure ?_)
  try dsimp only
  refine wpAny_bind ?_
  refine wpAny_holding ?_
  refine wpAny_bind (pyHash_false ?_)
  refine wpAny_mono h (fun b s' hq => ?_) fun _ _ x => x
  show wpAny _ _ (ret Value.none) _ _ _
  exact wpAny_pure ⟨_, rfl, hq⟩

theorem add_first {a : Addr} {led : Bool} {Q : Value → Shared → Prop} (ho : s.heap.get? a = some (setNil led))
    (h : ∀ h', Heap.SameBut a s.heap h' → h'.get? a = some (setOne led 1) → Q .none { s with heap := h', toks := s.toks + 1 }) : wpAny (model prog w) A (call (.builtin "set.add") [.ref a, .bool false]) Q E s := by
  refine call_add ⟨_, ho, rfl⟩ ?_
  unfold setAddHashed setAddHashedIn
  refine wpAny_holding (wpAny_bind (wpAny_setState_of (s := { s with toks := s.toks + 1 }) ho rfl (by cases led <;> decide) ?_))
  dsimp only
  rw [show byScan (.bool false) #[] = true by decide +kernel]
  simp only [↓reduceIte]
  unfold setAddByScan
  refine wpAny_bind ?_
  refine wpAny_bind (wpAny_rule ?_)
  refine wpAny_bind (m := setScan a (.bool false) 0 true #[]) (wpAny_pure ?_)
  dsimp only
  rw [lay_false]
  dsimp only
  refine wpAny_bind (wpAny_pure ?_)
  simp only [↓reduceIte]
  refine wpAny_bind (m := hashByValue 8 (.bool false)) (wpAny_pure ?_)
  simp only [↓reduceIte]
  refine wpAny_bind (wpAny_storeSet_of (s := { s with toks := s.toks + 1 }) ho rfl ?_ (by decide))
  have ht : ∀ led, (!false && SetTable.tooFull { mask := 7, place := #[0], dummies := #[], finger := 0, led := led, moves := 0, plain := true }) = false := fun led => by cases led <;> decide
  rw [ht]
  simp only [Bool.false_eq_true, ↓reduceIte]
  refine wpAny_pure ?_
  refine wpAny_pure (h _ (Heap.SameBut.update ..) ?_)
  exact Heap.get?_update_self _ ho rfl

theorem add_again {a : Addr} {led : Bool} {ep : Nat} {Q : Value → Shared → Prop} (ho : s.heap.get? a = some (setOne led ep)) (h : Q .none { s with toks := s.toks + 1 }) : wpAny (model prog w) A (call (.builtin "set.add") [.ref a, .bool false]) Q E s := by
  refine call_add ⟨_, ho, rfl⟩ ?_
  unfold setAddHashed setAddHashedIn
  refine wpAny_holding (wpAny_bind (wpAny_setState_of (s := { s with toks := s.toks + 1 }) ho rfl (by cases led <;> decide) ?_))
  dsimp only
  rw [show byScan (.bool false) #[((0 : Int), Value.bool false)] = true by decide +kernel]
  simp only [↓reduceIte]
  unfold setAddByScan
  refine wpAny_bind ?_
  refine wpAny_bind (wpAny_rule ?_)
  refine wpAny_bind ?_
  show wpAny _ _ (setScanFrom a (.bool false) 0 true [((0 : Int), Value.bool false)] 0) _ _ _
  unfold setScanFrom
  rw [if_pos (by decide)]
  refine wpAny_bind (wpAny_setEpoch_of (s := { s with toks := s.toks + 1 }) ho rfl (by cases led <;> decide) ?_)
  refine wpAny_bind (EqAt.same (.bool false) prog w _ _ ?_)
  simp only [Bool.and_self, ↓reduceIte]
  refine wpAny_pure ?_
  dsimp only
  exact wpAny_pure (wpAny_pure h)
end
end TL
end
/-! ### TLRn -/
section
open PySem PyProof.Rows PySem.SeqAt
namespace TL
section
variable {prog : Program} {w : World} {A : Around} {E : Value → Shared → Prop} {R : Result → Shared → Prop} {s : Shared}
theorem compTurn_set (elt target iter : Expr) (scope : Scope) (pos : Pos) (it acc : Value) (env : Env) :
    compTurn (.SetComp elt [⟨target, iter, [], 0⟩] scope pos) 0 it acc env = (standAt iter.pos >>= fun _ => pyNext it >>= fun r => match r with
      | none => pure (.done .next)
      | some v => letOwnedTupleGo target it v >>= fun _ => assign target env v >>= fun _ =>
        (eval elt env >>= fun x => standAt elt.pos >>= fun _ => call (.builtin "set.add") [acc, x] >>= fun _ => pure ()) >>= fun _ =>
          again (.compLoop (.SetComp elt [⟨target, iter, [], 0⟩] scope pos) 0 it acc env)) := by rfl
theorem compLoop_set {elt target iter : Expr} {scope : Scope} {pos : Pos} {it acc : Value} {env : Env} (I : Nat → Shared → Prop)
    (turn : ∀ n s, I n s → wpAny (model prog w) A (pyNext it) (fun r s₁ => match r with
      | none => R (.ok .next) s₁
      | some v => wpAny (model prog w) A (assign target env v) (fun _ s₂ => wpAny (model prog w) A (eval elt env) (fun x s₃ =>
          wpAny (model prog w) A (call (.builtin "set.add") [acc, x]) (fun _ s₄ => ∃ m, m < n ∧ I m s₄) (notedBy (model prog w) A env fun e s' => R (.error e) s') s₃)
          (notedBy (model prog w) A env fun e s' => R (.error e) s') s₂) (notedBy (model prog w) A env fun e s' => R (.error e) s') s₁) (notedBy (model prog w) A env fun e s' => R (.error e) s') s)
    (n : Nat) (h : I n s) (ht : ∀ v, letOwnedTupleGo target it v = pure () := by intro _; rfl) :
    codeAny (model prog w) A (.compLoop (.SetComp elt [⟨target, iter, [], 0⟩] scope pos) 0 it acc env) R s := by
  refine codeAny_loop rfl I (fun n s hI => ?_) n h
  show wpAny _ _ ((compTurn (.SetComp elt [⟨target, iter, [], 0⟩] scope pos) 0 it acc env).onRaise (fun x => do noteFrame x env; theTreesLotGoes x)) _ _ s
  refine wpAny_noted ?_
  rw [compTurn_set]
  refine wpAny_bind (wpAny_standAt (wpAny_bind (wpAny_mono (turn n s hI) (fun r s₁ h₁ => ?_) fun _ _ h' => h')))
  cases r with
  | none => exact wpAny_pure h₁
  | some v =>
    refine wpAny_bind (wpAny_of_eq (ht v) ?_)
    exact wpAny_bind (wpAny_mono h₁ (fun _ s₂ h₂ => wpAny_bind (wpAny_bind (wpAny_mono h₂ (fun x s₃ h₃ => wpAny_bind (wpAny_standAt (wpAny_bind (wpAny_mono h₃
      (fun _ s₄ h₄ => wpAny_pure (wpAny_pure ⟨rfl, h₄⟩)) fun _ _ h' => h')))) fun _ _ h' => h'))) fun _ _ h' => h')
theorem compStart_set {elt target iter ifs rest scope pos it acc env}
    (h0 : codeAny (model prog w) A (.compLoop (.SetComp elt (⟨target, iter, ifs, 0⟩ :: rest) scope pos) 0 it acc env) R s)
    (h : wpAny (model prog w) A (pyIter it) (fun it' s' => codeAny (model prog w) A (.compLoop (.SetComp elt (⟨target, iter, ifs, 0⟩ :: rest) scope pos) 0 it' acc env) R s')
      (notedBy (model prog w) A env fun x s' => R (.error x) s') s) :
    codeAny (model prog w) A (.compStart (.SetComp elt (⟨target, iter, ifs, 0⟩ :: rest) scope pos) 0 it acc env) R s := by
  refine codeAny_of_tree ?_
  show wpAny _ _ ((compStart (.SetComp elt (⟨target, iter, ifs, 0⟩ :: rest) scope pos) 0 it acc env).onRaise (fun x => do noteFrame x env; standAt theWindowsPlace)) _ _ s
  refine wpAny_notedAt ?_
  unfold compStart
  show wpAny _ _ (ask >>= _) _ _ s
  refine wpAny_bind (wpAny_askSetting (wpAny_ite ?_))
  split
  · first
      | exact wpAny_bind (wpAny_pure (wpAny_pure (And.intro rfl h0)))
      | exact wpAny_pure (And.intro rfl h0)
  · first
      | exact wpAny_bind (wpAny_rule (wpAny_bind (wpAny_standAt (wpAny_bind (wpAny_mono h (fun it' s' h' => wpAny_pure (And.intro rfl h')) fun _ _ x => x)))))
      | (refine wpAny_bind (wpAny_rule ?_); show wpAny _ _ (standAt iter.pos >>= _) _ _ s; exact wpAny_bind (wpAny_standAt (wpAny_bind (wpAny_mono h (fun it' s' h' => wpAny_pure (And.intro rfl h')) fun _ _ x => x))))
end
section
variable {c : Cx} {σ : Sg} {P : Pm} {k : Nat} {m : Str → Option Value} {α : Str → Addr}
theorem comp_core_set (O : c.Ok P k) {elt iter : Expr} {x : Str} {px pos : Pos} {scope : Scope} {σf : Sg} {ts : List Tr} {cl : List (Str × Addr)} {s : Shared} (B : Bd c σ m α s.heap)
    (hcell : ∀ y ∈ scope.names, y.2 ≠ .cell) (hkind : scope.kind = .function) (hx : scope.names.lookup x = some .local) (hσf : SfOK c σ scope σf)
    (hcl : ∀ y, scope.names.lookup y = some .free → cl.lookup y = c.env.cells.lookup y) (hcl3 : ∀ y a, cl.lookup y = some a → c.env.cells.lookup y = some a)
    (HE : ∀ t ∈ ts, CompEl c P k scope σf x [] elt t (some (.bool false))) (hne : 0 < ts.length) {it : Value} {s₂ : Shared} (X : ItAt c (Mut c σ α) s it s₂ ts) {E : Value → Shared → Prop} {RR : Value → Addr → Result → Shared → Prop}
    (hRR : ∀ D C h' tk m', s.heap.get? D = none → s.heap.get? C = none → D ≠ C → h'.Ns C m' → h'.get? D = some (setOne (!c.w.params.followText "set-order") 1) → (∀ b o, s.heap.get? b = some o → h'.get? b = some o) →
      RR (.ref D) C (.ok .next) { s with heap := h', toks := tk }) :
    wpAny (model c.prog c.w) c.A (newSet (.type "set")) (fun acc s₃ => wpAny (model c.prog c.w) c.A (newFunctionEnv scope c.env.globals cl [] c.env.qual none .none (some c.env)) (fun cenv s₄ =>
      codeAny (model c.prog c.w) c.A (.compStart (.SetComp elt [⟨.Name x px, iter, [], 0⟩] scope pos) 0 it acc { cenv with scope := relabel scope c.env }) (RR acc cenv.locals) s₄) E s₃) E s₂ := by
  obtain ⟨K, I, fp, p, St, vs, rfl, hI, W, hst, hfp, hnf, R, hp⟩ := X
  replace W := W c.A O.hh
  unfold newSet setsByText
  refine wpAny_bind (wpAny_bind (wpAny_askSetting (wpAny_pure ?_)))
  dsimp only
  refine wpAny_newObj_type (wpAny_newFunctionEnv hcell (by intro y hy; simp at hy) (fun h₁ hns₁ hsb₁ => ?_) hkind)
  generalize hled : (!c.w.params.followText "set-order") = led at hRR
  rw [show (!(model c.prog c.w).w.params.followText "set-order") = led from hled] at hns₁ hsb₁
  try rw [show (!(model c.prog c.w).w.params.followText "set-order") = led from hled]
  dsimp only at hns₁ hsb₁ ⊢
  generalize hH2 : s₂.heap.push (setNil led) = H2 at hns₁ hsb₁ ⊢
  generalize hD : s₂.heap.objs.size = D at *
  generalize hCd : H2.objs.size = C at *
  have hC : C = D + 1 := by rw [← hCd, ← hH2, Heap.size_push, hD]
  have hDC : D ≠ C := by rw [hC]; exact Nat.ne_of_lt (Nat.lt_succ_self _)
  have lt₂ : ∀ b o, s₂.heap.get? b = some o → b < D := fun b o e => hD ▸ Heap.lt_size e
  have ne₂ : ∀ b o, s₂.heap.get? b = some o → b ≠ D ∧ b ≠ C := fun b o e => ⟨Nat.ne_of_lt (lt₂ b o e), by rw [hC]; exact Nat.ne_of_lt (Nat.lt_succ_of_lt (lt₂ b o e))⟩
  have old : ∀ b o, s₂.heap.get? b = some o → h₁.get? b = some o := fun b o e => hsb₁.extBut b o (ne₂ b o e).2 (Heap.get?_push_of_some _ (hH2 ▸ Heap.get?_push_of_some _ e))
  have hacc : h₁.get? D = some (setNil led) := hsb₁.extBut _ _ hDC (Heap.get?_push_of_some _ (hH2 ▸ hD ▸ Heap.get?_push_size _ rfl))
  have nD : s.heap.get? D = none := keeps_none K (hD ▸ size_none _)
  have nC : s.heap.get? C = none := by
    cases e : s.heap.get? C with
    | none => rfl
    | some o => exact absurd rfl (ne₂ _ _ (K.heap _ _ e)).2
  -- the comprehension's own activation
  generalize hcdef : compCx c scope cl C s (fun b => Mut c σ α b ∨ b = D) = c'
  have O' : c'.Ok P k := by
    subst hcdef
    exact ⟨O.prog, O.w, hkind, O.glob, O.blt, O.globs B, O.hh, O.depth, O.units⟩
  have hprog : c'.prog = c.prog := by rw [← hcdef]
  have hw : c'.w = c.w := by rw [← hcdef]
  have hA : c'.A = c.A := by rw [← hcdef]
  have hloc : c'.env.locals = C := by rw [← hcdef]; rfl
  have hs0 : c'.s0 = s := by rw [← hcdef]
  have hmu : ∀ b, c'.mu b ↔ (Mut c σ α b ∨ b = D) := fun b => by rw [← hcdef]
  have hcells : ∀ y b, c'.env.cells.lookup y = some b → ∃ o, s.heap.get? b = some o := fun y b e => by
    rw [← hcdef] at e; exact B.cellAt (hcl3 y b e)
  have noOwn : ∀ n b, ¬ c'.ownCell n b := fun n b ⟨e, q⟩ => by
    obtain ⟨o, e'⟩ := hcells n b e
    rw [hs0, e'] at q; cases q
  have noσ : ∀ y t, σf.lookup y = some (.own t) → False := fun y t e => by obtain ⟨⟨_, z⟩, _⟩ := hσf.get y _ e; cases z
  have mutOld : ∀ b o, s₂.heap.get? b = some o → ¬ Mut c σ α b → ¬ Mut c' σf α b := fun b o e hn M => by
    rcases M with M | M | ⟨n, M⟩ | ⟨y, t, M, _⟩
    · exact ((hmu b).mp M).elim hn (ne₂ b o e).1
    · exact (ne₂ b o e).2 (M.trans hloc)
    · exact noOwn n b M
    · exact noσ y t M
  have B₂ := B.keeps K.heap
  have B' : Bd c' σf (fun y => ([] : List (Str × Value)).reverse.lookup y) α h₁ := by
    refine ⟨by rw [hloc]; exact hns₁, by rw [hloc, hs0]; exact nC, fun b o e => old b o (K.heap b o (by rw [← hs0]; exact e)), fun b M => ?_, fun n b M => (noOwn n b M).elim, fun n n' b M => (noOwn n b M).elim, fun y lv e => ?_, fun y t e => (noσ y t e).elim⟩
    · rcases (hmu b).mp M with M | rfl
      · obtain ⟨o, e⟩ := B₂.mutAt M; exact ⟨o, old b o e⟩
      · exact ⟨_, hacc⟩
    · obtain ⟨⟨t, rfl⟩, e1, e2, e3⟩ := hσf.get y lv e
      obtain ⟨v, Xh, r⟩ := B₂.val y _ e1
      refine ⟨v, .inr ?_, RT.imp (fun b o hn e => ⟨old b o e, mutOld b o e hn⟩) t v r⟩
      rcases Xh with ⟨z, _⟩ | ⟨z, a, ea, ca⟩
      · rw [z] at e3; rcases e3 with e3 | e3 <;> cases e3
      · refine ⟨?_, a, ?_, let ⟨o, q, d⟩ := ca; ⟨o, old _ _ q, d⟩⟩
        · rw [← hcdef]; exact (lookup_relabel_free e2).symm
        · rw [← hcdef]; exact (hcl y e2).trans ea
  have hxk : c'.env.kindOf x = some .local := by rw [← hcdef]; exact lookup_relabel_local hx
  have henv : c'.env = compEnvC scope cl C c.env := by rw [← hcdef]
  have loop : ∀ tk₀, codeAny (model c.prog c.w) c.A (.compLoop (.SetComp elt [⟨.Name x px, iter, [], 0⟩] scope pos) 0 (.ref I) (.ref D) (compEnvC scope cl C c.env)) (RR (.ref D) C) { s₂ with heap := h₁, toks := tk₀ } := by
    intro tk₀
    obtain ⟨h₂, tk₂, e₂, H₂⟩ := K
    refine compLoop_set (fun n s' => ∃ i h' tk m', n = ts.length + 1 - i ∧ i ≤ ts.length ∧ s' = { s with heap := h', toks := tk } ∧ Bd c' σf m' α h' ∧ St i h' ∧ h'.get? D = some (if i = 0 then setNil led else setOne led 1) ∧
      RTs h' (Mut c' σf α) ts vs ∧ ∀ b ∈ fp, ¬ Mut c' σf α b ∧ ∃ o, h'.get? b = some o) ?_ (ts.length + 1)
      ⟨0, h₁, tk₀, _, rfl, Nat.zero_le _, by rw [e₂], B', W.frame _ _ _ hst fun b hb o e => old b o e, hacc, RTs.imp (fun b o hn e => ⟨old b o e, mutOld b o e hn⟩) _ _ R, fun b hb => ⟨let ⟨o, e⟩ := (hfp b hb).2; mutOld b o e (hfp b hb).1, let ⟨o, e⟩ := (hfp b hb).2; ⟨o, old b o e⟩⟩⟩
    rintro n s' ⟨i, h', tk, m', rfl, hi, rfl, Bi, hst', hD', Rv, hfp'⟩
    obtain ⟨oI, vI, hoI, hdI⟩ := hnf i h' hst'
    have step : ∀ h₁, (∀ b o, b ∉ [I] → h'.get? b = some o → h₁.get? b = some o) → Bd c' σf m' α h₁ ∧ h₁.get? D = some (if i = 0 then setNil led else setOne led 1) ∧ RTs h₁ (Mut c' σf α) ts vs := fun h₁ hk => by
      have ne : ∀ b o, Dt o → h'.get? b = some o → b ≠ I := fun b o d e z => by
        subst z; rw [hoI] at e; cases e; exact d _ hdI
      have keepD : ∀ b o, Dt o → h'.get? b = some o → h₁.get? b = some o := fun b o d e => hk b o (by simpa using ne b o d e) e
      refine ⟨Bi.keepD keepD (fun b o e => ?_) fun b M => ?_, keepD _ _ (fun _ z => by split at z <;> cases z) hD', RTs.impD (fun b o d hn e => ⟨keepD b o d e, hn⟩) _ _ Rv⟩
      · have hb : b ≠ I := fun z => by
          subst z
          rw [hs0, hI] at e; cases e
        exact hk b o (by simpa using hb) (Bi.keep _ _ e)
      · rcases (hmu b).mp M with M' | rfl
        · obtain ⟨o₀, e₀⟩ := B.mutAt M'
          obtain ⟨o, e⟩ := Bi.muAt b M
          exact ⟨o, hk b o (by simpa using someNe e₀ hI) e⟩
        · exact ⟨_, keepD _ _ (fun _ z => by split at z <;> cases z) hD'⟩
    by_cases hlt : i < ts.length
    · refine W.item i _ _ _ hlt hst' fun v h₁ tk₁ hP hst₁ hk₁ => ?_
      obtain ⟨oI₁, _, hoI₁, _⟩ := hnf _ _ hst₁
      obtain ⟨B₁, hD₁, Rv₁⟩ := step h₁ hk₁
      obtain ⟨t, ht, hv⟩ := hp i v hP
      have hfp₁ : ∀ b ∈ fp, ¬ Mut c' σf α b ∧ ∃ o, h₁.get? b = some o := fun b hb => ⟨(hfp' b hb).1, by
        by_cases q : b = I
        · subst q; exact ⟨_, hoI₁⟩
        · obtain ⟨o, e⟩ := (hfp' b hb).2
          exact ⟨o, hk₁ b o (by simpa using q) e⟩⟩
      refine wpAny_assign_Name (wpAny_storeName_local (by rw [← henv]; exact hxk) (by rw [show (compEnvC scope cl C c.env).locals = C from rfl, ← hloc]; exact B₁.ns) (fun h₃ hn₃ hs₃ => ?_) (by rw [show (compEnvC scope cl C c.env).scope.kind = .function from hkind]; rfl))
      replace hn₃ : h₃.Ns c'.env.locals (fun y => if y = x then some v else m' y) := by rw [hloc]; exact hn₃
      replace hs₃ : Heap.SameBut c'.env.locals h₁ h₃ := by rw [hloc]; exact hs₃
      have B₃ := B₁.setLocal hxk (hv _ _ Rv₁) hn₃ hs₃
      have up₃ : ∀ b o, ¬ Mut c' σf α b → h₁.get? b = some o → h₃.get? b = some o := fun b o hn e => (hs₃.2 b fun z => hn (.inr (.inl z))).trans e
      have hfp₃ : ∀ b ∈ fp, ¬ Mut c' σf α b ∧ ∃ o, h₃.get? b = some o := fun b hb => by
        obtain ⟨hn, o, e⟩ := hfp₁ b hb
        exact ⟨hn, o, up₃ b o hn e⟩
      have hst₃ : St (i + 1) h₃ := W.frame _ _ _ hst₁ fun b hb o e => up₃ b o (hfp₁ b hb).1 e
      have dropx : ∀ {h m}, Bd c' ((x, .tree t) :: σf) m α h → Bd c' σf m α h := fun Bq => Bq.sub fun y lv e => by
        rw [lookup_cons]
        split
        · rename_i z; subst z
          obtain ⟨_, _, q, _⟩ := hσf.get _ _ e
          rw [hx] at q; cases q
        · exact e
      have mx : ∀ b, Mut c' σf α b ↔ Mut c' ((x, .tree t) :: σf) α b := fun b => ⟨fun M => by
        rcases M with M | M | M | ⟨y, t', e, M⟩
        · exact .inl M
        · exact .inr (.inl M)
        · exact .inr (.inr (.inl M))
        · exact (noσ y t' e).elim, fun M => mut_cons_tree M⟩
      have hD₃ : h₃.get? D = some (if i = 0 then setNil led else setOne led 1) := (hs₃.2 D (by rw [hloc]; exact hDC)).trans hD₁
      have Rv₃ : RTs h₃ (Mut c' σf α) ts vs := RTs.imp (fun b o hn e => ⟨up₃ b o hn e, hn⟩) _ _ Rv₁
      have HEt := HE t (List.mem_of_getElem? ht) cl C s (fun b => Mut c σ α b ∨ b = D) (by rw [hcdef]; exact O')
      rw [hcdef] at HEt
      rcases HEt with ⟨hr, _⟩ | ⟨r', hr, _, EV⟩
      · cases hr
      · cases hr
        simp only [EvOK, hprog, hw, hA, henv] at EV
        refine wpAny_mono (EV _ _ α B₃) (fun y s₅ h₅ => ?_) fun _ _ e => e.elim
        obtain ⟨⟨h₅, tk₅, rfl, H⟩, Rr⟩ := h₅
        have Rr : y = .bool false := Rr
        subst Rr
        have B₅ := B₃.keeps H
        have hDmu : c'.mu D := (hmu D).mpr (.inr rfl)
        have fpD : ∀ b ∈ fp, b ≠ D := fun b hb z => (hfp₃ b hb).1 (z ▸ .inl hDmu)
        have hlast : ∀ h₆ tk₆, Heap.SameBut D h₅ h₆ → h₆.get? D = some (setOne led 1) → ∃ n', n' < ts.length + 1 - i ∧ ∃ i h' tk m', n' = ts.length + 1 - i ∧ i ≤ ts.length ∧ ({ s with heap := h₆, toks := tk₆ } : Shared) = { s with heap := h', toks := tk } ∧ Bd c' σf m' α h' ∧ St i h' ∧ h'.get? D = some (if i = 0 then setNil led else setOne led 1) ∧
            RTs h' (Mut c' σf α) ts vs ∧ ∀ b ∈ fp, ¬ Mut c' σf α b ∧ ∃ o, h'.get? b = some o := fun h₆ tk₆ hs₆ hl₆ =>
          ⟨ts.length + 1 - (i + 1), by omega, i + 1, h₆, tk₆, _, rfl, hlt, rfl, (dropx B₅).touch hs₆ hDmu (by rw [hs0]; exact nD) (by rw [hloc]; exact hDC) (fun y' b e => by
            obtain ⟨o, e'⟩ := hcells y' b e
            exact someNe e' nD) noσ ⟨_, hl₆⟩, W.frame _ _ _ hst₃ fun b hb o e => (hs₆.2 b (fpD b hb)).trans (H b o e), hl₆, (Rv₃.keep H).sameBut hs₆ (.inl hDmu), fun b hb => ⟨(hfp₃ b hb).1, let ⟨o, e⟩ := (hfp₃ b hb).2; ⟨o, (hs₆.2 b (fpD b hb)).trans (H b o e)⟩⟩⟩
        have hD₅ := H _ _ hD₃
        by_cases hi0 : i = 0
        · rw [if_pos hi0] at hD₅
          exact add_first hD₅ fun h₆ hs₆ hl₆ => hlast h₆ _ hs₆ hl₆
        · rw [if_neg hi0] at hD₅
          exact add_again hD₅ (hlast h₅ _ (Heap.SameBut.refl _ _) hD₅)
    · have hin : i = ts.length := by omega
      subst hin
      refine W.done _ _ _ hst' fun h₁ tk₁ hk₁ => ?_
      obtain ⟨B₁, hD₁, Rv₁⟩ := step h₁ hk₁
      rw [if_neg (by omega)] at hD₁
      exact hRR D C h₁ tk₁ m' nD nC hDC (by rw [← hloc]; exact B₁.ns) hD₁ fun b o e => B₁.keep b o (by rw [hs0]; exact e)
  exact compStart_set (loop _) (W.self 0 _ _ _ (W.frame _ _ _ hst fun b hb o e => old b o e) (loop _))
end
end TL
end
/-! ### TLRo -/
section
open PySem PyProof.Rows PySem.SeqAt
namespace TL
namespace SF
theorem slot_next : Slot "set_iterator" "__next__" "set_iterator.__next__" :=
  .of (owner := "set_iterator") (n := "__next__") (by rw [typeLookup_type, builtinLookup_eq_fast]; kernel_rfl) (by decide +kernel) (by decide +kernel) (by decide +kernel)
    (by first | exact .inl (by decide +kernel) | exact .inr (by decide +kernel)) (by rw [isSubtype_type]; kernel_rfl)
theorem slot_iter : Slot "set_iterator" "__iter__" "set_iterator.__iter__" :=
  .of (owner := "set_iterator") (n := "__iter__") (by rw [typeLookup_type, builtinLookup_eq_fast]; kernel_rfl) (by decide +kernel) (by decide +kernel) (by decide +kernel)
    (by first | exact .inl (by decide +kernel) | exact .inr (by decide +kernel)) (by rw [isSubtype_type]; kernel_rfl)
theorem entry_next : entryFor table "set_iterator.__next__" = some Builtin.«set_iterator.__next__» := by first | exact entryFor_of_tree (by kernel_rfl) | exact entryFor_of_fast (by kernel_rfl)
theorem entry_iter : entryFor table "set_iterator.__iter__" = some Builtin.«dict_keyiterator.__iter__» :=
  entryFor_alias (id' := "dict_keyiterator.__iter__") (by kernel_rfl) (by first | rfl | decide +kernel | (unfold String.splitOn; simp +decide [String.splitOnAux])) (by decide +kernel) (by kernel_rfl)
theorem entry_set_iter : entryFor table "set.__iter__" = some Builtin.«frozenset.__iter__» :=
  entryFor_alias (id' := "frozenset.__iter__") (by kernel_rfl) rfl (by decide +kernel) (by kernel_rfl)
theorem args_next (a : Value) : argsOk "set_iterator.__next__" ⟨[a], []⟩ := by unfold argsOk; kernel_rfl
theorem args_iter (a : Value) : argsOk "set_iterator.__iter__" ⟨[a], []⟩ := by unfold argsOk; kernel_rfl
end SF
section
variable {prog : Program} {w : World} {A : Around} {E : Value → Shared → Prop} {s : Shared}
noncomputable abbrev ledOf (w : World) : Bool := !w.params.followText "set-order"
noncomputable abbrev itSet (slot i : Int) (D : Addr) (ep : Int) : Obj := { cls := .type "set_iterator", data := .fields #[rawInt slot, rawInt i, .ref D, rawInt 1, rawInt ep] }

theorem fits_one (led : Bool) : SetTable.fits { mask := 7, place := #[0], dummies := #[], finger := 0, led := led, moves := 0, plain := true } (#[((0 : Int), Value.bool false)] : Array (Int × Value)).size = true := by cases led <;> decide
theorem pick_one {α : Type} (f : Nat → Nat) (x : α) : pickOrder f #[x] = #[x] := by
  simp [pickOrder, pickOrder.go, Nat.mod_one]

theorem setNext_one {D : Addr} {ep : Nat} {slot : Nat} {Q : Option (Value × Nat) → Shared → Prop} (hs : slot = 0) (hD : s.heap.get? D = some (setOne (ledOf w) ep)) (h : ∀ k, (k = 0 ∨ k = 1) → (w.params.followText "set-order" = false → k = 1) → Q (some (.bool false, k)) s) :
    wpAny (model prog w) A (setNext D slot 0 ep) Q E s := by
  subst hs
  unfold setNext
  refine wpAny_bind (wpAny_setState_of hD rfl (fits_one _) ?_)
  dsimp only
  unfold setsByText
  refine wpAny_bind (wpAny_bind (wpAny_askSetting (wpAny_pure ?_)))
  dsimp only
  cases hb : w.params.followText "set-order" with
  | true =>
    rw [show (model prog w).w.params.followText "set-order" = true from hb]
    simp only [↓reduceIte, bne_self_eq_false, Bool.false_eq_true]
    refine wpAny_bind ?_
    unfold setWalk setsByText
    refine wpAny_bind (wpAny_setState_of hD rfl (fits_one _) ?_)
    dsimp only
    refine wpAny_bind (wpAny_bind (wpAny_askSetting (wpAny_pure ?_)))
    dsimp only
    rw [show (model prog w).w.params.followText "set-order" = true from hb]
    simp only [↓reduceIte]
    refine wpAny_bind (wpAny_askSetting (wpAny_pure ?_))
    rw [pick_one]
    exact wpAny_pure (h 0 (.inl rfl) (fun z => by rw [hb] at z; cases z))
  | false =>
    rw [show (model prog w).w.params.followText "set-order" = false from hb]
    simp only [Bool.false_eq_true, ↓reduceIte]
    rw [if_neg (by show ¬ ((!(true : Bool) && decide ((#[((0 : Int), Value.bool false)] : Array (Int × Value)).size > 1)) = true); simp)]
    refine wpAny_bind ?_
    have hl : ledOf w = true := by show (!w.params.followText "set-order") = true; rw [hb]; rfl
    rw [hl]
    show wpAny _ _ (if ((!true) && !(#[((0 : Int), Value.bool false)] : Array (Int × Value)).isEmpty) = true then _ else _) _ _ s
    rw [if_neg (by simp)]
    refine wpAny_pure ?_
    exact wpAny_pure (h 1 (.inr rfl) fun _ => rfl)
theorem setNext_none {D : Addr} {ep : Nat} {slot : Nat} {Q : Option (Value × Nat) → Shared → Prop} (hs : w.params.followText "set-order" = false → slot = 1) (hD : s.heap.get? D = some (setOne (ledOf w) ep)) (h : Q none s) :
    wpAny (model prog w) A (setNext D slot 1 ep) Q E s := by
  unfold setNext
  refine wpAny_bind (wpAny_setState_of hD rfl (fits_one _) ?_)
  dsimp only
  unfold setsByText
  refine wpAny_bind (wpAny_bind (wpAny_askSetting (wpAny_pure ?_)))
  dsimp only
  cases hb : w.params.followText "set-order" with
  | true =>
    rw [show (model prog w).w.params.followText "set-order" = true from hb]
    simp only [↓reduceIte, bne_self_eq_false, Bool.false_eq_true]
    refine wpAny_bind ?_
    unfold setWalk setsByText
    refine wpAny_bind (wpAny_setState_of hD rfl (fits_one _) ?_)
    dsimp only
    refine wpAny_bind (wpAny_bind (wpAny_askSetting (wpAny_pure ?_)))
    dsimp only
    rw [show (model prog w).w.params.followText "set-order" = true from hb]
    simp only [↓reduceIte]
    refine wpAny_bind (wpAny_askSetting (wpAny_pure ?_))
    rw [pick_one]
    exact wpAny_pure h
  | false =>
    have := hs hb
    subst this
    rw [show (model prog w).w.params.followText "set-order" = false from hb]
    simp only [Bool.false_eq_true, ↓reduceIte]
    rw [if_neg (by show ¬ ((!(true : Bool) && decide ((#[((0 : Int), Value.bool false)] : Array (Int × Value)).size > 1)) = true); simp)]
    refine wpAny_bind ?_
    have hl : ledOf w = true := by show (!w.params.followText "set-order") = true; rw [hb]; rfl
    rw [hl]
    show wpAny _ _ (if ((!true) && !(#[((0 : Int), Value.bool false)] : Array (Int × Value)).isEmpty) = true then _ else _) _ _ s
    rw [if_neg (by simp)]
    refine wpAny_pure ?_
    exact wpAny_pure h

theorem setIter_next {I D : Addr} {ep : Nat} {Q : Option Value → Shared → Prop} (hI : s.heap.get? I = some (itSet 0 0 D ep)) (hD : s.heap.get? D = some (setOne (ledOf w) ep)) (hne : D ≠ I)
    (h : ∀ h' k, (w.params.followText "set-order" = false → k = 1) → h'.get? I = some (itSet (k : Nat) 1 D ep) → Heap.SameBut I s.heap h' → Q (some (.bool false)) { s with heap := h' }) : wpAny (model prog w) A (pyNext (.ref I)) Q E s := by
  have hT : s.TypeIs (.ref I) "set_iterator" := ⟨_, hI, rfl⟩
  unfold pyNext
  refine wpAny_bind (wpAny_attempt (wpAny_callSpecial?_slot (name := Str.ofString "__next__") hT SF.slot_next (wpAny_call_entry SF.slot_next hT SF.entry_next ?_ (SF.args_next _))))
  show wpAny _ _ (fieldsOf (.ref I) >>= _) _ _ s
  refine wpAny_bind (wpAny_fieldsOf hI rfl ?_)
  show wpAny _ _ (setEntries D >>= _) _ _ s
  refine wpAny_bind (wpAny_setEntries_of hD rfl (fits_one _) ?_)
  show wpAny _ _ (if (((1 : Nat) : Int) != 1) = true then _ else _) _ _ s
  rw [if_neg (by decide)]
  show wpAny _ _ (setNext D (Int.toNat 0) (Int.toNat 0) (Int.toNat (ep : Int)) >>= _) _ _ s
  rw [show Int.toNat 0 = 0 from rfl, Int.toNat_natCast]
  refine wpAny_bind (setNext_one rfl hD fun k _ hk => ?_)
  show wpAny _ _ (setField (.ref I) 0 (rawInt k) >>= fun _ => setField (.ref I) 1 (rawInt (0 + 1)) >>= fun _ => ret (.bool false)) _ _ s
  refine wpAny_bind (wpAny_setField_rec hI (by simp) fun h₁ hI₁ hs₁ => ?_)
  replace hI₁ : h₁.get? I = some (itSet (k : Nat) 0 D ep) := hI₁
  refine wpAny_bind (wpAny_setField_rec (s := { s with heap := h₁ }) hI₁ (by simp) fun h₂ hI₂ hs₂ => ?_)
  exact wpAny_pure ⟨_, rfl, wpAny_pure (h h₂ k hk hI₂ (hs₁.trans hs₂))⟩

theorem setIter_end {I D : Addr} {ep k : Nat} {Q : Option Value → Shared → Prop} (hh : A.handled = none) (hk : w.params.followText "set-order" = false → k = 1) (hI : s.heap.get? I = some (itSet (k : Nat) 1 D ep)) (hD : s.heap.get? D = some (setOne (ledOf w) ep))
    (h : ∀ h', Heap.ExtBut I s.heap h' → Q none { s with heap := h' }) : wpAny (model prog w) A (pyNext (.ref I)) Q E s := by
  have hT : s.TypeIs (.ref I) "set_iterator" := ⟨_, hI, rfl⟩
  unfold pyNext
  refine wpAny_bind (wpAny_attempt (wpAny_callSpecial?_slot (name := Str.ofString "__next__") hT SF.slot_next (wpAny_call_entry SF.slot_next hT SF.entry_next ?_ (SF.args_next _))))
  show wpAny _ _ (fieldsOf (.ref I) >>= _) _ _ s
  refine wpAny_bind (wpAny_fieldsOf hI rfl ?_)
  show wpAny _ _ (setEntries D >>= _) _ _ s
  refine wpAny_bind (wpAny_setEntries_of hD rfl (fits_one _) ?_)
  show wpAny _ _ (if (((1 : Nat) : Int) != 1) = true then _ else _) _ _ s
  rw [if_neg (by decide)]
  show wpAny _ _ (setNext D (Int.toNat (k : Int)) (Int.toNat 1) (Int.toNat (ep : Int)) >>= _) _ _ s
  rw [show Int.toNat 1 = 1 from rfl, Int.toNat_natCast, Int.toNat_natCast]
  refine wpAny_bind (setNext_none hk hD ?_)
  show wpAny _ _ (setField (.ref I) 2 .none >>= fun _ => newExc (.type "StopIteration") [] >>= fun e => raiseNew e) _ _ s
  refine wpAny_bind (wpAny_setField_rec hI (by simp) fun h₁ hI₁ hs₁ => ?_)
  refine wpAny_bind ?_
  simp only [newExc, newTuple]
  refine wpAny_bind (wpAny_newObj_type ?_ (by size_fits))
  refine wpAny_bind (m := firstArgMember _ _) (wpAny_of_eq (a := Value.none) (by first | rfl | (simp only [firstArgMember]; rfl)) ?_)
  refine wpAny_newObj_type ?_ (by size_fits)
  simp only [raiseNew]
  refine wpAny_bind (wpAny_handled ?_)
  first | rw [show A.in1.handled = none from hh] | rw [hh]
  refine wpAny_bind (wpAny_pure (wpAny_throw ?_))
  refine wpAny_bind (wpAny_isInstance (T := "StopIteration") (b := true) ⟨_, Heap.get?_push_size _ rfl, rfl⟩ isSubtype_stop ?_)
  exact wpAny_pure (h _ ((hs₁.extBut.push _).push _))

theorem setIter_self {I D : Addr} {slot i ep : Int} {Q : Value → Shared → Prop} (hI : s.heap.get? I = some (itSet slot i D ep)) (h : Q (.ref I) s) : wpAny (model prog w) A (pyIter (.ref I)) Q E s := by
  have hT : s.TypeIs (.ref I) "set_iterator" := ⟨_, hI, rfl⟩
  refine wpAny_pyIter_slot hT SF.slot_iter (wpAny_call_entry SF.slot_iter hT SF.entry_iter ?_ (SF.args_iter _))
  show wpAny _ _ (ret (.ref I)) _ _ s
  exact wpAny_pure ⟨_, rfl, "set_iterator", _, hT, SF.slot_next.lookup, h⟩

theorem pyIter_set {D : Addr} {ep : Nat} {Q : Value → Shared → Prop} (hD : s.heap.get? D = some (setOne (ledOf w) ep)) (h : Q (.ref s.heap.objs.size) { s with heap := s.heap.push (itSet 0 0 D ep) }) : wpAny (model prog w) A (pyIter (.ref D)) Q E s := by
  have hT : s.TypeIs (.ref D) "set" := ⟨_, hD, rfl⟩
  refine wpAny_pyIter_slot hT F.slot_set_iter (wpAny_call_entry F.slot_set_iter hT SF.entry_set_iter ?_ (F.args_set_iter_1 _))
  unfold Builtin.«frozenset.__iter__» Builtin.Frozenset.slot0 slotArgs
  simp only [List.isEmpty_nil, Bool.not_true, Bool.false_eq_true, ↓reduceIte, bind_assoc, List.length_nil, bne_self_eq_false]
  unfold Builtin.Frozenset.addrOf Builtin.Frozenset.sizeOf
  refine wpAny_bind (wpAny_pure ?_)
  try dsimp only
  refine wpAny_bind (wpAny_pure ?_)
  refine wpAny_bind (wpAny_bind (wpAny_setEntries_of hD rfl (fits_one _) (wpAny_pure ?_)))
  refine wpAny_bind ?_
  unfold setDrawn setsByText
  refine wpAny_bind (wpAny_setState_of hD rfl (fits_one _) ?_)
  dsimp only
  refine wpAny_bind (wpAny_bind (wpAny_askSetting (wpAny_pure ?_)))
  refine wpAny_pure ?_
  rw [if_neg (by
    show ¬ ((!w.params.followText "set-order" && (!true && decide ((#[((0 : Int), Value.bool false)] : Array (Int × Value)).size > 1))) = true)
    simp)]
  refine wpAny_bind (wpAny_pure ?_)
  refine wpAny_bind (wpAny_setEpoch_of hD rfl (fits_one _) ?_)
  unfold newFields
  refine wpAny_bind (wpAny_newObj_type ?_ (by size_fits))
  exact wpAny_pure ⟨_, rfl, "set_iterator", _, ⟨_, Heap.get?_push_size _ rfl, rfl⟩, SF.slot_next.lookup, h⟩
end
section
variable {c : Cx} {σ : Sg} {P : Pm} {k : Nat} {m : Str → Option Value} {α : Str → Addr}

theorem set_walks {prog : Program} {w : World} {A : Around} (hh : A.handled = none) (I D : Addr) (hne : D ≠ I) (ep : Nat) :
    Walks prog w A I [I, D] [I] 1 (fun i v => i = 0 ∧ v = .bool false) (fun i h => h.get? D = some (setOne (ledOf w) ep) ∧ ∃ k : Nat, (i = 0 → k = 0) ∧ (i = 1 → w.params.followText "set-order" = false → k = 1) ∧ h.get? I = some (itSet k (i : Nat) D ep)) where
  sub := fun b hb => by rw [List.mem_singleton] at hb; subst hb; exact List.mem_cons_self
  frame := fun i h h' st hk => ⟨hk _ (by simp) _ st.1, let ⟨k, a, b, e⟩ := st.2; ⟨k, a, b, hk _ (by simp) _ e⟩⟩
  item := fun i s Q E hi st hQ => by
    have hi : i = 0 := by (first | lia | omega)
    subst hi
    obtain ⟨hD, k, h1, _, hI⟩ := st
    have := h1 rfl
    subst this
    refine setIter_next hI hD hne fun h' k hk hI' hs' => ?_
    exact hQ _ h' s.toks ⟨rfl, rfl⟩ ⟨(hs'.2 D hne).trans hD, k, fun z => by (first | lia | omega), fun _ => hk, hI'⟩ fun b o hb e => (hs'.2 b (by simpa using hb)).trans e
  done := fun s Q E st hQ => by
    obtain ⟨hD, k, _, h2, hI⟩ := st
    exact setIter_end hh (h2 rfl) hI hD fun h' he => hQ h' s.toks fun b o hb e => he b o (by simpa using hb) e
  self := fun i s Q E st hQ => by
    obtain ⟨_, k, _, _, hI⟩ := st
    exact setIter_self hI hQ

/-- isabs, = {..}: nothing but False is in it -/
theorem up_set (O : c.Ok P k) {elt iter : Expr} {x : Str} {px pos : Pos} {scope : Scope} {ts : List Tr} (σf : Sg) (Hit : ItOK c σ iter ts) (hσf : SfOK c σ scope σf)
    (HE : ∀ t ∈ ts, CompEl c P k scope σf x [] elt t (some (.bool false))) (hne : 0 < ts.length) (H : CompShape c scope σf x := by exact ⟨rfl, rfl, rfl, rfl, rfl⟩)
    (hs : ∀ x, foldedSetIterable iter c.env x = pure x := by intro _; rfl) : UpOK c σ (.SetComp elt [⟨.Name x px, iter, [], 0⟩] scope pos) [.bool false] := fun s m α B E Q hQ => by
  rw [arm_eval_SetComp]
  obtain ⟨cl, hclos, h1, h2⟩ := closure_of (H.clos hσf B)
  refine wpAny_comprehension_free (use := none) rfl hs hclos H.kind H.hnames (wpAny_mono (Hit s m α B _) (fun xv s₁ h₁ => wpAny_mono h₁ (fun it s₂ X => ?_) fun _ _ e => e) fun _ _ e => e)
  refine comp_core_set O B H.hcell H.kind H.loc hσf h1 h2 HE hne X (RR := fun acc C => compPost (model c.prog c.w) c.A _ none _ acc C) ?_
  intro D C h' tk m' nD nC hDC hn hD hk
  refine ⟨m', hn, fun h'' hs'' => ?_⟩
  have K : Kp s { s with heap := h'', toks := tk } := ⟨h'', tk, rfl, fun b o e => (hs''.2 b (someNe e nC)).trans (hk b o e)⟩
  have hD' : h''.get? D = some (setOne (ledOf c.w) 1) := (hs''.2 D hDC).trans hD
  refine unpack_it O.hh (N := Mut c σ α) (ts := [.bool false]) (iter_yes F.slot_set_iter (T := "set") ⟨_, hD', rfl⟩) (fun E => pyIter_set hD' ?_) fun ws s' K' R' => hQ ws s' (K.trans' K') R'
  have B₂ := B.keeps K.heap
  have hIne : D ≠ h''.objs.size := Nat.ne_of_lt (Heap.lt_size hD')
  refine ⟨push_kp _ _, h''.objs.size, [h''.objs.size, D], _, _, [.bool false], rfl, size_none _, fun A' hA => set_walks hA h''.objs.size D hIne 1, ⟨Heap.get?_push_of_some _ hD', 0, fun _ => rfl, fun z => by (first | lia | omega), Heap.get?_push_size _ rfl⟩, ?_, ?_, ⟨.bool false, [], rfl, rfl, rfl⟩, ?_⟩
  · intro b hb
    simp only [List.mem_cons, List.not_mem_nil, or_false] at hb
    rcases hb with rfl | rfl
    · exact ⟨fun M => B₂.mutNe M (size_none _) rfl, _, Heap.get?_push_size _ rfl⟩
    · exact ⟨fun M => B.mutNe M nD rfl, _, Heap.get?_push_of_some _ hD'⟩
  · rintro i h ⟨_, k, _, _, e⟩
    exact ⟨_, _, e, rfl⟩
  · rintro i v ⟨rfl, rfl⟩
    exact ⟨.bool false, rfl, fun h N' _ => rfl⟩
end
end TL
end
/-! ### TLRp -/
section
open PySem PyProof.Rows PySem.SeqAt
namespace TL
section
variable {c : Cx} {σ : Sg} {P : Pm} {k : Nat} {m : Str → Option Value} {α : Str → Addr}

theorem st_for_enum (O : c.Ok P k) {xi xv f : Str} {pi pv pt np p1 pos : Pos} {x1 : Nat} {e : Expr} {body : List Stmt} {ts : List Tr} {Φ : Fl → Prop} (bl : Blt c P f (.type "enumerate")) (He : EvOK c σ e (.list ts)) (J : Nat → Sg → Prop) (hxi : Sto c xi) (hxv : Sto c xv) (h0 : J 0 σ)
    (turn : ∀ i t σ', ts[i]? = some t → J i σ' → ExOK c ((xv, .tree t) :: (xi, .tree (.int (i : Int))) :: σ') body (Lp Φ (J (i + 1)))) (done : ∀ σ', J ts.length σ' → Φ (.next σ'))
    (he : starEach [e] c.env = (false, eval e c.env) :: starEach [] c.env := by rfl) (hs : ∀ x, foldedSetIterable (.Call (.Name f np) [e] [] p1) c.env x = pure x := by intro _; rfl)
    (hel : assignEach [.Name xi pi, .Name xv pv] c.env = [(false, assign (.Name xi pi) c.env), (false, assign (.Name xv pv) c.env)] := by rfl) :
    StOK c σ (.For (.Tuple [.Name xi pi, .Name xv pv] x1 pt) (.Call (.Name f np) [e] [] p1) body [] pos) Φ := fun s m α B => by
  refine wpAny_For ?_ hs
  refine wpAny_Call_ofName (name_builtin O B bl.kind bl.free bl.boot ?_ bl.notName bl.notDebug)
  refine callWith_type1 ?_ he rfl
  refine args_cons (He.then B fun lv s₁ K₁ B₁ R => args_nil ?_) he
  obtain ⟨l, vs, nl, rfl, hnl, hgl, R⟩ := R
  have hlL : s₁.heap.IsList l vs.toArray := ⟨_, hgl, rfl, nl, rfl⟩
  refine call_enumerate_list hlL fun h₂ hE hit hz hk₂ => ?_
  generalize hEa : s₁.heap.objs.size + 1 = ea at hE ⊢
  generalize hIa : s₁.heap.objs.size = ia at hE hit ⊢
  have hei : ea ≠ ia := by rw [← hEa, hIa]; exact Nat.succ_ne_self _
  have lt₁ : ∀ b o, s₁.heap.get? b = some o → b ≠ ea ∧ b ≠ ia := fun b o e => by
    have := Heap.lt_size e
    rw [← hEa, ← hIa]
    exact ⟨Nat.ne_of_lt (Nat.lt_succ_of_lt this), Nat.ne_of_lt this⟩
  have nonek : ∀ a, (a = ea ∨ a = ia) → s.heap.get? a = none := fun a ha => by
    cases q : s.heap.get? a with
    | none => rfl
    | some o =>
      have := lt₁ a o (K₁.heap _ _ q)
      rcases ha with rfl | rfl
      · exact absurd rfl this.1
      · exact absurd rfl this.2
  refine wpAny_pyIter_enum hE ?_
  have W := WalksT.enumerate (prog := c.prog) (w := c.w) (A := c.A) O.hh ea ia l hei (lt₁ l _ hgl).1 (lt₁ l _ hgl).2 vs.toArray
  have hlen : vs.toArray.size = ts.length := by rw [List.size_toArray, R.length]
  obtain ⟨h₁, tk₁, rfl, H₁⟩ := K₁
  have H₂ : ∀ b o, s.heap.get? b = some o → h₂.get? b = some o := fun b o e => hk₂ b o (H₁ b o e)
  refine codeAny_forLoop_any (fun n s' => ∃ i h' tk σ' m' α', n = ts.length + 1 - i ∧ i ≤ ts.length ∧ s' = { s with heap := h', toks := tk } ∧ Bd c σ' m' α' h' ∧ Fz c σ α s.heap σ' α' h' ∧ J i σ' ∧
    ((∃ old, IsEnum h' ea ia i old) ∧ h'.IsListIter ia l i ∧ h'.IsList l vs.toArray) ∧ (∀ b ∈ [ea, ia, l], ¬ Mut c σ' α' b ∧ ∃ o, h'.get? b = some o) ∧ RTs h' (Mut c σ' α') ts vs) ?_ (ts.length + 1)
    ⟨0, h₂, tk₁, σ, m, α, rfl, Nat.zero_le _, rfl, B.keeps H₂, Fz.of_keep H₂, h0, ⟨⟨_, hE⟩, hit, ⟨_, hk₂ _ _ hgl, rfl, nl, rfl⟩⟩, ?_, R.keep hk₂⟩
  · rintro n s' ⟨i, h', tk, σ', m', α', rfl, hi, rfl, B', F, hJ, hst', hfp', R'⟩
    obtain ⟨⟨old, hE'⟩, ⟨oI, hoI, hcI, hdI⟩, _⟩ := id hst'
    have step : ∀ h₁, (∀ b o, b ∉ [ea, ia] → h'.get? b = some o → h₁.get? b = some o) → Bd c σ' m' α' h₁ ∧ Fz c σ α s.heap σ' α' h₁ ∧ RTs h₁ (Mut c σ' α') ts vs := fun h₁ hk => by
      have ne : ∀ b o, Dt o → h'.get? b = some o → b ∉ [ea, ia] := fun b o d e z => by
        simp only [List.mem_cons, List.not_mem_nil, or_false] at z
        rcases z with rfl | rfl
        · rw [hE'] at e; cases e; exact d _ rfl
        · rw [hoI] at e; cases e; exact d _ hdI
      have keepD : ∀ b o, Dt o → h'.get? b = some o → h₁.get? b = some o := fun b o d e => hk b o (ne b o d e) e
      have nin : ∀ b o, s.heap.get? b = some o → b ∉ [ea, ia] := fun b o e z => by
        simp only [List.mem_cons, List.not_mem_nil, or_false] at z
        have := nonek b z
        rw [this] at e; cases e
      refine ⟨B'.keepD keepD (fun b o e => hk b o (nin b o (B.keep _ _ e)) (B'.keep _ _ e)) fun b M => ?_, fun b o hn e => ?_, RTs.impD (fun b o d hn e => ⟨keepD b o d e, hn⟩) _ _ R'⟩
      · obtain ⟨o₀, e₀⟩ := B.muAt b M
        obtain ⟨o, e⟩ := B'.muAt b M
        exact ⟨o, hk b o (nin b _ e₀) e⟩
      · obtain ⟨e', n'⟩ := F b o hn e
        exact ⟨hk b o (nin b o e) e', n'⟩
    by_cases hlt : i < ts.length
    · refine W.item i _ _ _ (by rw [hlen]; exact hlt) hst' fun T vals h₃ tk₃ hP hTs hT hmid hk₃ => ?_
      obtain ⟨ti, x, hx, rfl⟩ := hP
      refine W.go _ _ _ i T _ _ _ hmid fun h₄ hst₄ hk₄ => ?_
      have hTw := W.apart i T _ hmid
      have hT₄ : h₄.IsTuple T #[.int i ti, x] := by
        obtain ⟨o, ho, r⟩ := hT
        exact ⟨o, hk₄ _ _ hTw ho, r⟩
      have hk₃₄ : ∀ b o, b ∉ [ea, ia] → h'.get? b = some o → h₄.get? b = some o := fun b o hb e => hk₄ b o hb (hk₃ b o hb e)
      obtain ⟨B₄, F₄, R₄⟩ := step h₄ hk₃₄
      obtain ⟨t, ht⟩ : ∃ t, ts[i]? = some t := ⟨_, List.getElem?_eq_getElem hlt⟩
      obtain ⟨v, hv, Rv⟩ := R₄.get ht
      have hxv' : x = v := by
        have : vs[i]? = some x := by simpa using hx
        rw [this] at hv; exact Option.some.inj hv
      subst hxv'
      have hfp₄ : ∀ b ∈ [ea, ia, l], ¬ Mut c σ' α' b ∧ ∃ o, h₄.get? b = some o := fun b hb => by
        refine ⟨(hfp' b hb).1, ?_⟩
        simp only [List.mem_cons, List.not_mem_nil, or_false] at hb
        obtain ⟨⟨old₄, hE₄⟩, ⟨oI₄, hoI₄, _⟩, ⟨ol₄, hol₄, _⟩⟩ := hst₄
        rcases hb with rfl | rfl | rfl
        · exact ⟨_, hE₄⟩
        · exact ⟨_, hoI₄⟩
        · exact ⟨_, hol₄⟩
      refine wpAny_assign_Tuple O.hh hT₄ (by rw [hel]; rfl) (by rw [hel]; rfl) fun h₅ hx₅ => ?_
      have hk₅ : ∀ b o, h₄.get? b = some o → h₅.get? b = some o := fun b o e => hx₅ b o (Nat.ne_of_lt (Heap.lt_size e)) e
      have B₅ := B₄.keeps hk₅
      rw [hel]
      refine wpAny_assignInOrder_more (wpAny_assign_Name (store_tree O hxi (s := { s with heap := h₅, toks := tk₃ }) B₅ (t := .int (i : Int)) ⟨ti, rfl⟩ fun h₆ tk₆ m₆ B₆ F₆ => ?_))
      refine wpAny_assignInOrder_more (wpAny_assign_Name (store_tree O hxv (s := { s with heap := h₆, toks := tk₆ }) B₆ (t := t) (RT.imp (fun b o hn e => F₆ b o hn e) _ _ (Rv.keep hk₅)) fun h₇ tk₇ m₇ B₇ F₇ => wpAny_pure ?_))
      refine wpAny_mono (turn i t σ' ht hJ _ m₇ α' B₇) (fun fl s₈ x => ?_) fun _ _ x => x.elim
      obtain ⟨h₈, tk₈, σ₈, m₈, α₈, rfl, B₈, F₈, r⟩ := x
      have F₄₈ : Fz c σ' α' h₄ σ₈ α₈ h₈ := (((Fz.of_keep hk₅).trans F₆).trans F₇).trans F₈
      have FF := F₄.trans F₄₈
      have hst₈ := W.frame _ _ _ hst₄ fun b hb o e => (F₄₈ b o (hfp₄ b hb).1 e).1
      have hfp₈ : ∀ b ∈ [ea, ia, l], ¬ Mut c σ₈ α₈ b ∧ ∃ o, h₈.get? b = some o := fun b hb => by
        obtain ⟨hn, o, e⟩ := hfp₄ b hb
        exact ⟨(F₄₈ b o hn e).2, o, (F₄₈ b o hn e).1⟩
      have R₈ : RTs h₈ (Mut c σ₈ α₈) ts vs := RTs.imp F₄₈ _ _ R₄
      cases fl with
      | next => exact ⟨ts.length + 1 - (i + 1), by omega, i + 1, h₈, tk₈, σ₈, m₈, α₈, rfl, hlt, rfl, B₈, FF, r, hst₈, hfp₈, R₈⟩
      | cont => exact ⟨ts.length + 1 - (i + 1), by omega, i + 1, h₈, tk₈, σ₈, m₈, α₈, rfl, hlt, rfl, B₈, FF, r, hst₈, hfp₈, R₈⟩
      | brk => exact ⟨h₈, tk₈, σ₈, m₈, α₈, rfl, B₈, FF, r⟩
      | ret v => exact ⟨h₈, tk₈, σ₈, m₈, α₈, rfl, B₈, FF, r⟩
    · have hin : i = ts.length := by omega
      subst hin
      refine W.done _ _ _ (by rw [hlen]; exact hst') fun h₃ tk₃ hk₃ => wpAny_execs_nil ?_
      obtain ⟨B₃, F₃, R₃⟩ := step h₃ hk₃
      exact ⟨h₃, tk₃, σ', m', α', rfl, B₃, F₃, done σ' hJ⟩
  · have B₂ := B.keeps H₂
    intro b hb
    simp only [List.mem_cons, List.not_mem_nil, or_false] at hb
    rcases hb with rfl | rfl | rfl
    · exact ⟨fun M => B.mutNe M (nonek _ (.inl rfl)) rfl, _, hE⟩
    · obtain ⟨o, ho, _⟩ := hit
      exact ⟨fun M => B.mutNe M (nonek _ (.inr rfl)) rfl, o, ho⟩
    · exact ⟨hnl, _, hk₂ _ _ hgl⟩
end
end TL
end
/-! ### TLRq -/
section
open PySem PyProof.Rows PySem.SeqAt
namespace TL

noncomputable def splitN (c : Nat) : List Nat → List (List Nat)
  | [] => [[]]
  | x :: l => if x = c then [] :: splitN c l else match splitN c l with
    | [] => [[x]]
    | p :: ps => (x :: p) :: ps
noncomputable def joinN (c : Nat) : List (List Nat) → List Nat
  | [] => []
  | [p] => p
  | p :: q :: r => p ++ c :: joinN c (q :: r)

theorem splitN_free (c : Nat) : ∀ p : List Nat, c ∉ p → splitN c p = [p]
  | [], _ => rfl
  | x :: p, h => by
    simp only [List.mem_cons, not_or] at h
    have hx : x ≠ c := fun z => h.1 z.symm
    simp only [splitN, hx, if_false]
    rw [splitN_free c p h.2]
theorem splitN_cut (c : Nat) (l : List Nat) : ∀ p : List Nat, c ∉ p → splitN c (p ++ c :: l) = p :: splitN c l
  | [], _ => by simp [splitN]
  | x :: p, h => by
    simp only [List.mem_cons, not_or] at h
    have hx : x ≠ c := fun z => h.1 z.symm
    show splitN c (x :: (p ++ c :: l)) = _
    simp only [splitN, hx, if_false]
    rw [splitN_cut c l p h.2]
theorem splitN_join (c : Nat) : ∀ ps : List (List Nat), ps ≠ [] → (∀ p ∈ ps, c ∉ p) → splitN c (joinN c ps) = ps
  | [], h, _ => (h rfl).elim
  | [p], _, h => splitN_free c p (h p (by simp))
  | p :: q :: r, _, h => by
    show splitN c (p ++ c :: joinN c (q :: r)) = _
    rw [splitN_cut c _ p (h p (by simp)), splitN_join c (q :: r) (by simp) fun x hx => h x (by simp [hx])]

theorem S_toList (x : Str) : S x.cps.toList = x := by
  cases x; simp [S]
theorem join_S (c : Nat) : ∀ ps : List Str, (Str.join ⟨#[c]⟩ ps).cps.toList = joinN c (ps.map (·.cps.toList))
  | [] => rfl
  | [p] => rfl
  | p :: q :: r => by
    have ih := join_S c (q :: r)
    show (p ++ ⟨#[c]⟩ ++ Str.join ⟨#[c]⟩ (q :: r)).cps.toList = p.cps.toList ++ c :: joinN c ((q :: r).map (·.cps.toList))
    rw [← ih]
    show ((p.cps ++ #[c]) ++ (Str.join ⟨#[c]⟩ (q :: r)).cps).toList = _
    simp
theorem split_ne (x : Str) (c : Nat) : Txt.split x ⟨#[c]⟩ ≠ [] := by
  unfold Txt.split
  split
  · simp
  · split
    · simp
    · rw [StrLaws.partsBetween_eq]
      obtain ⟨p, r, e⟩ := StrLaws.partsFrom_ne x (⟨#[c]⟩ : Str).length 0 (Builtin.Str.occurrences x ⟨#[c]⟩ 0 x.length (x.length + 1))
      rw [e]; simp
theorem split_S (l : List Nat) (c : Nat) : Txt.split (S l) ⟨#[c]⟩ = (splitN c l).map S := by
  have h1 := StrLaws.join_split (S l) ⟨#[c]⟩
  have h2 := StrLaws.split_free (S l) c
  have h3 := split_ne (S l) c
  generalize Txt.split (S l) ⟨#[c]⟩ = ps at h1 h2 h3 ⊢
  have hl : l = joinN c (ps.map (·.cps.toList)) := by
    rw [← join_S, h1]
  rw [hl, splitN_join c _ (by simpa using h3) (by
    intro p hp
    simp only [List.mem_map] at hp
    obtain ⟨q, hq, rfl⟩ := hp
    exact h2 q hq)]
  rw [List.map_map]
  refine (List.map_id ps).symm.trans ?_
  apply List.map_congr_left
  intro x _
  exact (S_toList x).symm

open Builtin Builtin.Str in
theorem split_new {prog : Program} {w : World} {A : Around} {E : Value → Shared → Prop} {s : Shared} {x : Str} {t : Tok} {Q : Value → Shared → Prop} {y : Str} {u : Tok} (hy : (y.length == 0) = false)
    (hq : ∀ (l : List (Str × Tok)) tk, l.map (·.1) = Txt.split x y → Q (.ref s.heap.objs.size) { s with heap := s.heap.push (sobj "list" (strValues l) 0), toks := tk })
    (hsz : x.length ≤ sizeLine) (hsz2 : (Txt.split x y).length ≤ sizeLine) : wpAny (model prog w) A (call (.builtin "str.split") [.str x t, .str y u]) Q E s := by
  cases h1 : (decide (x.length < y.length) || decide (strKind x < strKind y))
  · cases hf : (occurrences x y 0 x.length (x.length + 1)).isEmpty
    · have hsp : Txt.split x y = partsBetween x (occurrences x y 0 x.length (x.length + 1)) y.length := (if_neg (ne_true_of_eq_false h1)).trans (if_neg (ne_true_of_eq_false hf))
      refine call_meets F.slot_str_split (typeIs_str _ _ _) F.entry_str_split (F.args_str_split_2 _ _) (meets_str_split_sep x y t u h1 hy hf hsz (hsp ▸ hsz2)) ?_
      show wants Q E _ { s with toks := _, heap := s.heap.push { cls := .type "list", data := .seq (strsFrom s.toks (partsBetween x (occurrences x y 0 x.length (x.length + 1)) y.length)).toArray } }
      rw [strsFrom_eq]
      exact hq (numbered s.toks _) _ ((numbered_texts _ _).trans hsp.symm)
    · exact call_meets F.slot_str_split (typeIs_str _ _ _) F.entry_str_split (F.args_str_split_2 _ _) (meets_str_split_not_found x y t u h1 hy hf)
        (hq [(x, t)] s.toks ((if_neg (ne_true_of_eq_false h1)).trans (if_pos hf)).symm)
  · exact call_meets F.slot_str_split (typeIs_str _ _ _) F.entry_str_split (F.args_str_split_2 _ _) (meets_str_split_cannot_occur x y t u h1)
      (hq [(x, t)] s.toks (if_pos h1).symm)

section
variable {c : Cx} {σ : Sg} {P : Pm} {k : Nat} {m : Str → Option Value} {α : Str → Addr}
theorem rts_values {h : Heap} {N : Addr → Prop} : ∀ (l : List (Str × Tok)), RTs h N ((l.map (·.1)).map Tr.str) (strValues l)
  | [] => rfl
  | p :: l => ⟨_, _, rfl, ⟨p.2, rfl⟩, rts_values l⟩
theorem splitN_len (c : Nat) : ∀ l : List Nat, (splitN c l).length ≤ l.length + 1
  | [] => by simp [splitN]
  | x :: l => by
    have ih := splitN_len c l
    simp only [splitN]
    split
    · simp; (first | lia | omega)
    · split
      · simp
      · rename_i e; rw [e] at ih; simp at ih ⊢; (first | lia | omega)
theorem c_split {l : List Nat} (hs : l.length ≤ 100) : CallNew c (.builtin "str.split") [.str (S l), .str "/"] (.list (strsT (splitN 47 l))) := fun s N vs hN R₀ => by
  obtain ⟨v, r, e, ⟨t, e1⟩, v2, r2, e2, ⟨t2, e3⟩, e4⟩ := R₀
  have e4 : r2 = [] := e4
  subst e e1 e2 e3 e4
  have h100 : (200 : Nat) ≤ sizeLine := by decide
  have hsp : Txt.split (S l) "/" = (splitN 47 l).map S := by rw [slash_eq]; exact split_S l 47
  refine split_new (by decide +kernel) (fun ps tk hp => ?_) (by rw [len_S]; (first | lia | omega)) (by rw [hsp, List.length_map]; have := splitN_len 47 l; (first | lia | omega))
  refine ⟨⟨_, tk, rfl, fun b o e => Heap.get?_push_of_some _ e⟩, _, rfl, size_none _, strValues ps, 0, Heap.get?_push_size _ rfl, ?_⟩
  have : strsT (splitN 47 l) = (ps.map (·.1)).map Tr.str := by rw [hp, hsp, strsT, List.map_map]; rfl
  rw [this]
  exact rts_values ps

theorem joinN_len (c : Nat) : ∀ ps : List (List Nat), (joinN c ps).length ≤ (ps.map (·.length)).sum + ps.length
  | [] => by simp [joinN]
  | [p] => by simp [joinN]
  | p :: q :: r => by
    have := joinN_len c (q :: r)
    simp [joinN] at this ⊢; (first | lia | omega)
theorem strs_values {h : Heap} {N : Addr → Prop} : ∀ {ps : List (List Nat)} {ws : List Value}, RTs h N (strsT ps) ws → ∃ l : List (Str × Tok), ws = strValues l ∧ l.map (·.1) = ps.map S
  | [], ws, R => by have R : ws = [] := R; exact ⟨[], R, rfl⟩
  | p :: ps, _, ⟨v, r, rfl, ⟨t, e⟩, R⟩ => by
    subst e
    obtain ⟨l, rfl, h⟩ := strs_values R
    exact ⟨(S p, t) :: l, rfl, by simp [h]⟩
theorem c_join {ps : List (List Nat)} (hs : (ps.map (·.length)).sum + ps.length ≤ 1000) : CallOK c (.builtin "str.join") [.str "/", .list (strsT ps)] (.str (S (joinN 47 ps))) := fun s N vs hN R₀ => by
  obtain ⟨v, r, e, ⟨t, e1⟩, v2, r2, e2, ⟨a, ws, n, e3, _, hg, R⟩, e4⟩ := R₀
  have e4 : r2 = [] := e4
  subst e e1 e2 e3 e4
  obtain ⟨l, rfl, hl⟩ := strs_values R
  refine SC.join (l := l) (texts := ps.map S) ⟨_, hg, rfl, n, rfl⟩ hl ?_ fun t' k => ⟨(Kp.rfl' s).tks _, t', ?_⟩
  · refine joinOk_of_weight ?_ (by decide)
    rw [List.map_map, List.length_map, show (ps.map (Str.length ∘ S)) = ps.map (·.length) from List.map_congr_left fun x _ => len_S x]
    (first | lia | omega)
  · have e : Txt.join ("/" : Str) (ps.map S) = S (joinN 47 ps) := by
      show Builtin.Str.glued _ _ = _
      rw [StrLaws.glued_eq_join, slash_eq]
      have := join_S 47 (ps.map S)
      rw [List.map_map] at this
      have h2 : (ps.map ((fun x : Str => x.cps.toList) ∘ S)) = ps := by
        refine Eq.trans ?_ (List.map_id ps)
        apply List.map_congr_left
        intro x _; simp [S]
      rw [h2] at this
      show Str.join ⟨#[47]⟩ (ps.map S) = _
      rw [← S_toList (Str.join ⟨#[47]⟩ (ps.map S)), this]
    rw [e]
end
end TL
end
/-! ### TLRr -/
section
open PySem PyProof.Rows PySem.SeqAt
namespace TL
section
variable {c : Cx} {σ : Sg} {P : Pm} {k : Nat} {m : Str → Option Value} {α : Str → Addr}

theorem EntsOf.fresh {ks : List Int} {vs : List Value} {es : List DictEntry} (H : EntsOf ks vs es) {i : Int} (hi : i ∉ ks) : ∀ e ∈ es, Value.isInt i e.key = false := by
  induction H with
  | nil => intro e h; cases h
  | @cons k v e ks vs es he _ ih =>
    intro e' h'
    simp only [List.mem_cons, not_or] at hi
    rcases List.mem_cons.mp h' with rfl | h'
    · obtain ⟨t, rfl⟩ := he
      have : k ≠ i := fun z => hi.1 z.symm
      simp [Value.isInt, this]
    · exact ih hi.2 e' h'

theorem dict_new {prog : Program} {w : World} {A : Around} {E : Value → Shared → Prop} {s : Shared} {d : Addr} {ks : List Int} {vs : List Value} {es : List DictEntry} {n : Nat} {i : Int} {t : Tok} {v : Value} {Q : Unit → Shared → Prop} (hg : s.heap.get? d = some (dobj es n))
    (hE : EntsOf ks vs es) (hi : i ∉ ks) (hz : ks.length ≤ sizeLine)
    (hQ : ∀ h', h'.get? d = some (dobj (es ++ [⟨hashInt i, .int i t, v⟩]) (n + 1)) → Heap.SameBut d s.heap h' → Q () { s with heap := h', toks := s.toks + 1 }) : wpAny (model prog w) A (setItem (.ref d) (.int i t) v) Q E s := by
  have hm := hE.intMap hg
  unfold setItem
  try with_reducible refine wpAny_holding ?_
  first | refine wpAny_bind (wpAny_pure ?_) | skip
  refine wpAny_bind (wpAny_sequenceKey hm.typeIs (by decide) ?_)
  refine wpAny_bind (wpAny_callSpecial?_slot (name := Str.ofString "__setitem__") hm.typeIs slot_dict_setitem
    (wpAny_call_entry slot_dict_setitem hm.typeIs entry_dict_setitem ?_ (args_dict_setitem _ _ _)))
  show wpAny _ _ (Builtin.Dict.notOrdered "__setitem__" ⟨[.ref d, .int i t, v], []⟩ >>= _) _ _ s
  refine wpAny_bind (wpAny_notOrdered_dict hm.typeIs ?_)
  show wpAny _ _ (dictSet d (.int i t) v >>= _) _ _ s
  refine wpAny_bind ?_
  unfold dictSet
  try with_reducible refine wpAny_holding ?_
  refine wpAny_bind (wpAny_pyHash_int ?_)
  unfold dictSetHashed
  try with_reducible refine wpAny_holding ?_
  refine wpAny_bind (wpAny_dictFind_int (s := { s with toks := s.toks + 1 }) hg rfl (fun e he => hE.keys e (by simpa using he)) ?_)
  have hnone : (es.toArray.findIdx? fun e => Value.isInt i e.key) = none := by
    rw [Array.findIdx?_eq_none_iff]
    intro e he
    exact hE.fresh hi e (by simpa using he)
  rw [hnone]
  have hlen := hE.len
  refine wpAny_bind (wpAny_rule (wpAny_updateDictKeys (hz := by rw [List.size_toArray, hlen.2]; exact hz) (s := { s with toks := s.toks + 1 }) hg rfl ?_))
  refine wpAny_pure ⟨.none, rfl, wpAny_pure (hQ _ ?_ (Heap.SameBut.update ..))⟩
  refine (Heap.get?_update_self _ hg (Obj.isFreed_of_dict (Obj.data_mapDictKeys rfl _))).trans ?_
  simp [Obj.mapDictKeys]

theorem st_setdict (O : c.Ok P k) {x : Str} {px pos pos' : Pos} {ie e : Expr} {i : Int} {t : Tr} {ks : List Int} {ts : List Tr} {Φ : Fl → Prop} (ho : σ.lookup x = some (.own (.dict ks ts))) (H : EvOK c σ e t) (HI : EvOK c σ ie (.int i)) (hi : i ∉ ks) (hz : ks.length ≤ sizeLine)
    (h : Φ (.next ((x, .own (.dict (ks ++ [i]) (ts ++ [t]))) :: σ))) (hd : (x == ("__debug__" : Str)) = false := by decide) (hd' : (x == ("__classdict__" : Str)) = false := by decide)
    (hs : swapsWith e (some (.Subscript (.Name x px) ie pos')) pos.line c.env = pure false := by rfl) : StOK c σ (.Assign [.Subscript (.Name x px) ie pos'] e pos) Φ := fun s m α B => by
  refine wpAny_Assign_Subscript (H.then B fun v s₁ K₁ B₁ R₁ => ?_) hs
  obtain ⟨v₂, X, rfl, q⟩ := B₁.val x _ ho
  refine wpAny_Name (loadName_of O B₁ X ?_ hd') hd
  refine HI.then B₁ fun iv s₂ K₂ B₂ ⟨ti, e2⟩ => ?_
  subst e2
  obtain ⟨v₂, X, e3, es, vs, n, hg, hnd, hE, R⟩ := B₂.val x _ ho
  have Mx : Mut c σ α (α x) := .inr (.inr (.inr ⟨x, _, ho, rfl⟩))
  refine dict_new hg hE hi hz fun h' hg' hs' => ?_
  have R₁' := R₁.keep K₂.heap
  have B₃ := B₂.updOwn (t' := .dict (ks ++ [i]) (ts ++ [t])) ho ⟨_, vs ++ [v], _, hg', by
      rw [List.nodup_append]
      exact ⟨hnd, by simp, fun a ha b hb => by
        simp only [List.mem_singleton] at hb
        subst hb
        exact fun z => hi (z ▸ ha)⟩, hE.snoc i ti v, (R.sameBut hs' Mx).snoc (R₁'.sameBut hs' Mx)⟩ hs'
  obtain ⟨h₀, tk₀, rfl, H₀⟩ := K₁.trans' K₂
  refine ⟨h', _, _, m, α, rfl, B₃, fun b o hn e => ⟨(hs'.2 b fun z => hn (z ▸ Mx)).trans (H₀ b o e), fun M => hn ?_⟩, h⟩
  rcases M with M | M | M | ⟨y, t'', e', M⟩
  · exact .inl M
  · exact .inr (.inl M)
  · exact .inr (.inr (.inl M))
  · rw [lookup_cons] at e'
    split at e'
    · rename_i q; subst q; exact .inr (.inr (.inr ⟨y, _, ho, M⟩))
    · exact .inr (.inr (.inr ⟨y, t'', e', M⟩))
end
end TL
end
/-! ### TLRs -/
section
open PySem PyProof.Rows PySem.SeqAt
namespace TL
section
variable {c : Cx} {σ : Sg} {P : Pm} {k : Nat} {m : Str → Option Value} {α : Str → Addr}

theorem EntsOf.pairs (prog : Program) (w : World) {ks : List Int} {vs : List Value} {es : List DictEntry} (H : EntsOf ks vs es) : Pairs (intKind prog w) es (ks.zip vs) := by
  induction H with
  | nil => exact .nil
  | cons he _ ih => obtain ⟨t, rfl⟩ := he; exact .cons (by simp [intKind, Value.isInt]) rfl ih
theorem dictAt_of {prog : Program} {w : World} {h : Heap} {a : Addr} {ks : List Int} {vs : List Value} {es : List DictEntry} {n : Nat} (hg : h.get? a = some (dobj es n)) (hE : EntsOf ks vs es) (hnd : ks.Nodup) : h.DictAt (intKind prog w) a (ks.zip vs) n := by
  refine ⟨_, es.toArray, hg, ⟨rfl, rfl, rfl⟩, rfl, fun e he => ?_, by simpa using hE.pairs prog w, ?_⟩
  · obtain ⟨k, t, h1, h2⟩ := hE.keys e (by simpa using he)
    exact ⟨k, by rw [h1]; simp [intKind, Value.isInt], h2⟩
  · have : (ks.zip vs).map (·.1) = ks := by
      rw [List.map_fst_zip]
      rw [hE.len.1]; exact Nat.le_refl _
    rw [this]; exact hnd

theorem new_list_dict (O : c.Ok P k) {f : Str} {np pos : Pos} {e : Expr} {ks : List Int} {ts : List Tr} (bl : Blt c P f (.type "list")) (He : EvOK c σ e (.dict ks ts)) (hmu : c.mu sysModules) (hz : ks.length ≤ sizeLine)
    (he : starEach [e] c.env = (false, eval e c.env) :: starEach [] c.env := by rfl) : EvNew c σ (.Call (.Name f np) [e] [] pos) (.list (intsT ks)) := fun s m α B => by
  refine wpAny_Call_ofName (name_builtin O B bl.kind bl.free bl.boot ?_ bl.notName bl.notDebug)
  refine callWith_type1 ?_ he rfl
  refine args_cons (He.then B fun v s₁ K₁ B₁ R => args_nil ?_) he
  obtain ⟨a, es, vs, n, rfl, hna, hg, hnd, hE, R⟩ := R
  have lo : (a == sysModules) = false := by
    rw [beq_eq_false_iff_ne]
    intro z
    exact hna (z ▸ .inl hmu)
  have hlen : (ks.zip vs).length = ks.length := by rw [List.length_zip, hE.len.1, Nat.min_self]
  refine PySem.W.kdl_call (PySem.W.kdl_dict (knd := intKind c.prog c.w) (kvs := ks.zip vs) (ep := n) lo) O.hh (dictAt_of hg hE hnd) (by rw [hlen]; exact hz) fun h' tk acc' c' hk hD hacc => ?_
  refine ⟨K₁.trans' ⟨h', tk, rfl, hk⟩, _, rfl, keeps_none K₁ (size_none _), acc'.toList, c', by simpa using hD, ?_⟩
  have hI : IntsAre acc'.toList ks := by
    obtain ⟨h1, h2⟩ := hacc
    rw [hlen] at h1
    have gen : ∀ (l : List Value) (q : List Int), l.length = q.length → (∀ (j : Nat) (u : Value), l[j]? = some u → ∃ t, u = Value.int (q.getD j 0) t) → IntsAre l q := by
      intro l
      induction l with
      | nil => intro q hq _; have : q = [] := List.length_eq_zero_iff.mp hq.symm
               subst this; exact .nil
      | cons u l ih =>
        intro q hq hv
        cases q with
        | nil => simp at hq
        | cons x q =>
          obtain ⟨t, ht⟩ := hv 0 u rfl
          have ht : u = Value.int x t := by simpa using ht
          subst ht
          exact .cons x t (ih q (by simpa using hq) fun j u hu => by simpa using hv (j + 1) u (by simpa using hu))
    refine gen _ _ (by simpa using h1) fun j u hu => ?_
    obtain ⟨key, x, hkx, hk'⟩ := h2 j u (by simpa using hu)
    obtain ⟨t, rfl⟩ := Value.isInt_shape hk'
    refine ⟨t, ?_⟩
    rw [List.getElem?_zip_eq_some] at hkx
    rw [List.getD_eq_getElem?_getD, hkx.1]; rfl
  exact rts_of_ints hI

theorem cmp_ne_same (O : c.Ok P k) {xs : List Str} : CmpOK c .NotEq (.list (xs.map .str)) (.list (xs.map .str)) false := fun s N u v ⟨l, us, n, e, _, hl, R⟩ ⟨b, ws, n', e', hb, R'⟩ => by
  subst e e'
  obtain ⟨h1, h2⟩ := strsAt_of R
  obtain ⟨h1', h2'⟩ := strsAt_of R'
  refine (show wpAny (model c.prog c.w) c.A (richCompare .NotEq (.ref l) (.ref b)) _ _ s from ?_)
  refine RcNeAt.lists (items := us.toArray) (items2 := ws.toArray) (e := fun _ => true) ⟨_, hl, rfl, n, rfl⟩ ⟨_, hb, rfl, n', rfl⟩ (by rw [h1, h1']) (by have := O.units; (first | lia | omega)) (fun j g1 g2 => ?_) _ _ _ _ ⟨Kp.rfl' s, ?_⟩
  · obtain ⟨t, ht⟩ := h2 j (us.toArray[j]) (by simp [g1])
    obtain ⟨t', ht'⟩ := h2' j (ws.toArray[j]) (by simp [g2])
    rw [ht, ht']
    have := EqAt.str_str (A := c.A.in1) (s := s) (xs.getD j Str.empty) t (xs.getD j Str.empty) t'
    rwa [beq_self_eq_true] at this
  · have : (List.range us.toArray.size).all (fun _ => true) = true := by simp
    rw [this]; rfl

/-- one more thing is set apart -/
noncomputable abbrev Cx.plus (c : Cx) (a : Addr) : Cx := ⟨c.prog, c.w, c.A, c.env, c.s0, fun b => c.mu b ∨ b = a⟩
theorem mut_plus {a b : Addr} : Mut (c.plus a) σ α b ↔ Mut c σ α b ∨ b = a := by
  constructor
  · rintro ((M | M) | M | M | M)
    · exact .inl (.inl M)
    · exact .inr M
    · exact .inl (.inr (.inl M))
    · exact .inl (.inr (.inr (.inl M)))
    · exact .inl (.inr (.inr (.inr M)))
  · rintro ((M | M | M | M) | M)
    · exact .inl (.inl M)
    · exact .inr (.inl M)
    · exact .inr (.inr (.inl M))
    · exact .inr (.inr (.inr M))
    · exact .inl (.inr M)
theorem Bd.addMu {h₀ h : Heap} (B : Bd c σ m α h₀) (H : ∀ b o, h₀.get? b = some o → h.get? b = some o) {a : Addr} (ha : h₀.get? a = none) (hex : ∃ o, h.get? a = some o) : Bd (c.plus a) σ m α h := by
  have B' := B.keeps H
  have nM : ∀ b, Mut c σ α b → b ≠ a := fun b M => B.mutNe M ha
  refine ⟨B'.ns, B.above, B'.keep, fun b M => M.elim (B'.muAt b) fun z => z ▸ hex, B'.cells, B.cinj, fun x lv e => ?_, fun x t e => ?_⟩
  · obtain ⟨v, X, q⟩ := B.val x lv e
    refine ⟨v, X.imp fun _ _ _ ⟨o, z, d⟩ => ⟨o, H _ _ z, d⟩, q.imp (fun t z o e => H _ _ e) fun b o hn e => ⟨H b o e, fun M => (mut_plus.mp M).elim hn fun z => someNe e ha z⟩⟩
  · obtain ⟨b1, b2, b3, b4, b5⟩ := B.own x t e
    exact ⟨b1, fun M => M.elim b2 fun z => nM _ (.inr (.inr (.inr ⟨x, t, e, rfl⟩))) z, b3, b4, b5⟩

/-- what was set apart becomes a name's own -/
theorem Bd.adopt {h h' : Heap} {a : Addr} (B : Bd (c.plus a) σ m α h) {x : Str} {t : Tr} (hk : c.env.kindOf x = some .local) (h0 : c.s0.heap.get? a = none) (h1 : ¬ c.mu a) (h2 : a ≠ c.env.locals) (h3 : ∀ n b, c.ownCell n b → a ≠ b)
    (h4 : ∀ y t', σ.lookup y = some (.own t') → α y ≠ a) (hv : OR h (Mut (c.plus a) σ α) a t) (hn : h'.Ns c.env.locals (fun y => if y = x then some (.ref a) else m y)) (hs : Heap.SameBut c.env.locals h h') :
    Bd c ((x, .own t) :: σ) (fun y => if y = x then some (.ref a) else m y) (fun y => if y = x then a else α y) h' := by
  have ML : Mut (c.plus a) σ α c.env.locals := .inr (.inl rfl)
  have upm : ∀ b, Mut c ((x, .own t) :: σ) (fun y => if y = x then a else α y) b → Mut (c.plus a) σ α b := by
    intro b M
    rcases M with M | M | M | ⟨y, t', e, M⟩
    · exact .inl (.inl M)
    · exact .inr (.inl M)
    · exact .inr (.inr (.inl M))
    · by_cases q : y = x
      · exact .inl (.inr (by simpa [q] using M.symm))
      · rw [lookup_cons, if_neg q] at e
        simp only [q, if_false] at M
        exact .inr (.inr (.inr ⟨y, t', e, M⟩))
  have old : ∀ b o, ¬ Mut (c.plus a) σ α b → h.get? b = some o → h'.get? b = some o ∧ ¬ Mut c ((x, .own t) :: σ) (fun y => if y = x then a else α y) b := fun b o hn' e =>
    ⟨(hs.2 b fun z => hn' (z ▸ ML)).trans e, fun M => hn' (upm b M)⟩
  refine ⟨hn, B.above, fun b o e => (hs.2 b (someNe e B.above)).trans (B.keep b o e), fun b M => ?_, fun n b e => ⟨(B.cells n b e).1, let ⟨v, q⟩ := (B.cells n b e).2; ⟨v, q.sameBut hs (B.cells n b e).1⟩⟩, B.cinj, fun y lv e => ?_, fun y t' e => ?_⟩
  · by_cases q : b = c.env.locals
    · exact q ▸ nsAt hn
    · obtain ⟨o, e⟩ := B.muAt b (.inl M); exact ⟨o, (hs.2 b q).trans e⟩
  · rw [lookup_cons] at e
    by_cases q : y = x
    · subst q
      rw [if_pos rfl] at e; cases e
      refine ⟨.ref a, .inl ⟨hk, by simp⟩, ?_⟩
      show _ ∧ OR _ _ (if y = y then a else α y) _
      rw [if_pos rfl]
      exact ⟨rfl, OR.imp (fun o e => (hs.2 _ h2).trans e) old hv⟩
    · rw [if_neg q] at e
      obtain ⟨v, X, r⟩ := B.val y lv e
      refine ⟨v, ?_, ?_⟩
      · rcases X with ⟨k, z⟩ | ⟨k, a', z, w'⟩
        · exact .inl ⟨k, by simpa [q] using z⟩
        · exact .inr ⟨k, a', z, w'.sameBut hs (B.cellNe z)⟩
      · simp only [q, if_false]
        exact r.imp (fun t' z o e' => by subst z; exact (hs.2 _ (B.own y t' e).2.2.1).trans e') old
  · rw [lookup_cons] at e
    by_cases q : y = x
    · subst q
      simp only [if_true]
      refine ⟨h0, h1, h2, h3, fun z t'' e' w => ?_⟩
      by_cases qz : z = y
      · exact qz.symm
      · rw [lookup_cons, if_neg qz] at e'
        simp only [qz, if_false] at w
        exact absurd w.symm (h4 z t'' e')
    · rw [if_neg q] at e
      obtain ⟨a1, a1', a2, a3, a4⟩ := B.own y t' e
      simp only [q, if_false]
      refine ⟨a1, fun M => a1' (.inl M), a2, a3, fun z t'' e' w => ?_⟩
      by_cases qz : z = x
      · simp only [qz, if_true] at w
        exact absurd w (h4 y t' e)
      · rw [lookup_cons, if_neg qz] at e'
        simp only [qz, if_false] at w
        exact a4 z t'' e' w

/-- x, y = ([], []) -/
theorem st_two_news (O : c.Ok P k) {x y : Str} {px py pos tpos q1 q2 q3 : Pos} {k' k2 : Nat} {Φ : Fl → Prop} (hx : c.env.kindOf x = some .local) (hy : c.env.kindOf y = some .local) (hxy : x ≠ y) (h : Φ (.next ((x, .own (.list [])) :: (y, .own (.list [])) :: σ)))
    (hs : swapsWithSole [.Tuple [.Name x px, .Name y py] k' tpos] (.Tuple [.List [] q1, .List [] q2] k2 q3) pos.line c.env = pure false := by rfl)
    (hw : swappedStores [.Tuple [.Name x px, .Name y py] k' tpos] (.Tuple [.List [] q1, .List [] q2] k2 q3) c.env = pure (some [x, y]) := by rfl) :
    StOK c σ (.Assign [.Tuple [.Name x px, .Name y py] k' tpos] (.Tuple [.List [] q1, .List [] q2] k2 q3) pos) Φ := fun s m α B => by
  refine Assign_Tuple_swapped (names := [x, y]) (Tuple_ (args_cons (wpAny_mono (args_new args_nil' (by decide) s m α B) (fun v₁ s₁ h₁ => ?_) fun _ _ z => z.elim) (by rfl))) hs hw
  obtain ⟨K₁, a, rfl, ha, Ra⟩ := h₁
  have B₁ := B.keeps K₁.heap
  refine args_cons (wpAny_mono (args_new args_nil' (by decide) s₁ m α B₁) (fun v₂ s₂ h₂ => ?_) fun _ _ z => z.elim) (by rfl)
  obtain ⟨K₂, b, rfl, hb, Rb⟩ := h₂
  refine args_nil ?_
  refine wpAny_newObj_type ?_ (by show 2 ≤ sizeLine; decide)
  refine wpAny_unpackItems_tuple (items := #[.ref a, .ref b]) O.hh ⟨_, Heap.get?_push_size _ rfl, rfl, 0, rfl⟩ fun h' X => ?_
  obtain ⟨va, na, ga, ra⟩ := Ra
  have hex : ∃ o, s₁.heap.get? a = some o := ⟨_, ga⟩
  have D : Bd (c.plus a) σ m α s₁.heap := B.addMu K₁.heap ha hex
  have X' : ∀ z o, s₂.heap.get? z = some o → h'.get? z = some o := fun z o e => X _ _ (someNe (Heap.get?_push_of_some _ e) (size_none _)) (Heap.get?_push_of_some _ e)
  have K₃ : ∀ z o, s₁.heap.get? z = some o → h'.get? z = some o := fun z o e => X' z o (K₂.heap z o e)
  obtain ⟨vb, nb, gb, rb⟩ := Rb
  have D' := D.keeps K₃
  refine wpAny_assignInOrder_more (wpAny_bindName (wpAny_storeName_local hy D'.ns (fun h₁ hn₁ hs₁ => ?_) (notNs O)))
  have B₂ := D.setOwn (t := .list []) K₃ hy hb ⟨vb, nb, X' _ _ gb, rb⟩ hn₁ hs₁
  refine wpAny_assignInOrder_more (wpAny_bindName (wpAny_storeName_local hx B₂.ns (fun h₂ hn₂ hs₂ => wpAny_pure ?_) (notNs O)))
  have hl : a ≠ c.env.locals := (B.mutNe (.inr (.inl rfl)) ha).symm
  have h0 : c.s0.heap.get? a = none := by
    cases e : c.s0.heap.get? a with
    | none => rfl
    | some o => rw [B.keep _ _ e] at ha; cases ha
  have h1 : ¬ c.mu a := fun z => by
    obtain ⟨o, e⟩ := B.muAt a z
    rw [ha] at e; cases e
  have BD := Bd.adopt B₂ hx (t := .list []) h0 h1 hl (fun n z e => (B.mutNe (.inr (.inr (.inl ⟨n, e⟩))) ha).symm) (fun z t' e w => (B₂.own z t' e).2.1 (.inr w.symm.symm)) ⟨va, na, (hs₁.2 a hl).trans (K₃ _ _ ga), ra⟩ hn₂ hs₂
  refine (fun HF => ?_ : (Fz c σ α s.heap ((x, .own (.list [])) :: (y, .own (.list [])) :: σ) (fun z => if z = x then a else if z = y then b else α z) h₂) → _) fun z o nM e => ?_
  · obtain ⟨g1, t1, rfl, _⟩ := K₁
    obtain ⟨g2, t2, rfl, _⟩ := K₂
    exact ⟨h₂, _, (x, .own (.list [])) :: (y, .own (.list [])) :: σ, _, _, rfl, BD, HF, h⟩
  · have zl : z ≠ c.env.locals := fun w => nM (.inr (.inl w))
    refine ⟨(hs₂.2 z zl).trans ((hs₁.2 z zl).trans (K₃ _ _ (K₁.heap _ _ e))), ?_⟩
    rintro (M | M | M | ⟨u, t', e', M⟩)
    · exact nM (.inl M)
    · exact nM (.inr (.inl M))
    · exact nM (.inr (.inr (.inl M)))
    · by_cases q : u = x
      · simp only [q, if_true] at M
        exact someNe e ha M.symm
      · rw [lookup_cons, if_neg q] at e'
        simp only [q, if_false] at M
        by_cases q' : u = y
        · simp only [q', if_true] at M
          exact someNe (K₁.heap _ _ e) hb M.symm
        · rw [lookup_cons, if_neg q'] at e'
          simp only [q', if_false] at M
          exact nM (.inr (.inr (.inr ⟨u, t', e', M⟩)))
end
end TL
end
/-! ### TLRt -/
section
open PySem PyProof.Rows
namespace TL
section
variable {c : Cx} {σ : Sg} {P : Pm} {k : Nat} {m : Str → Option Value} {α : Str → Addr}

theorem sgl_lens : ∀ w : List Nat, ((w.map fun c => [c]).map (·.length)).sum = w.length
  | [] => rfl
  | x :: w => by have := sgl_lens w; simp at this ⊢; (first | lia | omega)
theorem map_S (ps : List (List Nat)) : (ps.map S).map (fun x : Str => x.cps.toList) = ps := by
  rw [List.map_map]
  refine Eq.trans ?_ (List.map_id ps)
  apply List.map_congr_left
  intro x _; simp
theorem glue_S (ps : List (List Nat)) : Txt.join ("/" : Str) (ps.map S) = S (joinN 47 ps) := by
  show Builtin.Str.glued _ _ = _
  rw [StrLaws.glued_eq_join, slash_eq]
  have := join_S 47 (ps.map S)
  rw [map_S] at this
  show Str.join ⟨#[47]⟩ _ = _
  rw [← S_toList (Str.join ⟨#[47]⟩ (ps.map S)), this]
theorem c_join_str (hh : c.A.handled = none) {w : List Nat} (hs : w.length ≤ 100) : CallOK c (.builtin "str.join") [.str "/", .str (S w)] (.str (S (joinN 47 (w.map fun c => [c])))) := fun s N vs hN R₀ => by
  obtain ⟨v, r, e, ⟨t, e1⟩, v2, r2, e2, ⟨t2, e3⟩, e4⟩ := R₀
  have e4 : r2 = [] := e4
  subst e e1 e2 e3 e4
  have hsg : PyProof.Rows.signs (S w) = (w.map fun c => [c]).map S := by
    simp [PyProof.Rows.signs, S]
  refine SC.joinStr hh ?_ fun h' k t' hk => ⟨⟨h', k, rfl, hk⟩, t', ?_⟩
  · rw [hsg]
    refine joinOk_of_weight ?_ (by decide)
    rw [List.map_map, List.length_map, show ((w.map fun c => [c]).map (Str.length ∘ S)) = (w.map fun c => [c]).map (·.length) from List.map_congr_left fun x _ => len_S x, sgl_lens, List.length_map]
    (first | lia | omega)
  · rw [hsg, glue_S]

theorem join_none : ∀ ps : List Str, (Str.join ⟨#[]⟩ ps).cps.toList = (ps.map (·.cps.toList)).flatten
  | [] => rfl
  | [p] => by show p.cps.toList = _; simp
  | p :: q :: r => by
    have ih := join_none (q :: r)
    show (p ++ ⟨#[]⟩ ++ Str.join ⟨#[]⟩ (q :: r)).cps.toList = _
    simp only [List.map_cons, List.flatten_cons] at ih ⊢
    rw [← ih]
    show ((p.cps ++ #[]) ++ (Str.join ⟨#[]⟩ (q :: r)).cps).toList = _
    simp
theorem empty_eq : ("" : Str) = S [] := by decide +kernel
theorem c_join_none {ps : List (List Nat)} (hs : (ps.map (·.length)).sum + ps.length ≤ 1000) : CallOK c (.builtin "str.join") [.str "", .list (strsT ps)] (.str (S ps.flatten)) := fun s N vs hN R₀ => by
  obtain ⟨v, r, e, ⟨t, e1⟩, v2, r2, e2, ⟨a, ws, n, e3, _, hg, R⟩, e4⟩ := R₀
  have e4 : r2 = [] := e4
  subst e e1 e2 e3 e4
  obtain ⟨l, rfl, hl⟩ := strs_values R
  refine SC.join (l := l) (texts := ps.map S) ⟨_, hg, rfl, n, rfl⟩ hl ?_ fun t' k => ⟨(Kp.rfl' s).tks _, t', ?_⟩
  · refine joinOk_of_weight ?_ (by decide)
    rw [List.map_map, List.length_map, show (ps.map (Str.length ∘ S)) = ps.map (·.length) from List.map_congr_left fun x _ => len_S x]
    (first | lia | omega)
  · have e : Txt.join ("" : Str) (ps.map S) = S ps.flatten := by
      show Builtin.Str.glued _ _ = _
      rw [StrLaws.glued_eq_join, empty_eq]
      have := join_none (ps.map S)
      rw [map_S] at this
      show Str.join ⟨#[]⟩ (ps.map S) = _
      rw [← S_toList (Str.join ⟨#[]⟩ (ps.map S)), this]
    rw [e]
end
end TL
end
/-! ### TP0 -/
section
open PySem PyProof.Rows
namespace TL

noncomputable def defsOf (p : Program) : List Df := p.main.body.filterMap fun
  | .FunctionDef n a b _ _ _ s _ _ _ => some ⟨n, a, b, s⟩
  | _ => none

noncomputable abbrev pw := PySem.Challenge.pw_rt0050_01

/-- names of the interpreter's own that the text uses -/
noncomputable def bltNames : List Str := ["len", "list", "range", "min", "max", "sum", "type", "bytes", "bool", "isinstance", "issubclass", "str", "tuple", "map", "enumerate", "sorted"]

structure PmOK (P : Pm) : Prop where
  defs : P.defs = defsOf pw
  move : ∃ t, P.mg "_MOVE_COST" = some (.int 2 t)
  case : ∃ t, P.mg "_CASE_COST" = some (.int 1 t)
  most : ∃ t, P.mg "_MAX_STRING_SIZE" = some (.int 40 t)
  b64 : ∃ t, P.mg "_B64" = some (.bytes ("ABCDEFGHIJKLMNOPQRSTUVWXYZabcdefghijklmnopqrstuvwxyz0123456789+/".toUTF8.data.toList.toArray) t)
  blt : ∀ x ∈ bltNames, P.mg x = none

theorem PmOK.mem {P : Pm} (H : PmOK P) {i : Nat} {d : Df} (h : (defsOf pw)[i]? = some d) : d ∈ P.defs := by
  rw [H.defs]; exact List.mem_of_getElem? h

noncomputable def subCost (x y : Str) : Int := if x == y then 0 else if Txt.lower x == Txt.lower y then 1 else 2

section
variable {P : Pm} {k : Nat}


theorem RTs.one {h : Heap} {N : Addr → Prop} {t : Tr} {vs : List Value} (R : RTs h N [t] vs) : ∃ v, vs = [v] ∧ RT h N t v := by
  obtain ⟨u, r, rfl, R₁, e⟩ := R
  have e : r = [] := e
  subst e; exact ⟨u, rfl, R₁⟩
theorem RTs.two {h : Heap} {N : Addr → Prop} {t t' : Tr} {vs : List Value} (R : RTs h N [t, t'] vs) : ∃ v v', vs = [v, v'] ∧ RT h N t v ∧ RT h N t' v' := by
  obtain ⟨u, r, rfl, R₁, R₂⟩ := R
  obtain ⟨v, rfl, R₃⟩ := RTs.one R₂
  exact ⟨u, v, rfl, R₁, R₃⟩
theorem RTs.three {h : Heap} {N : Addr → Prop} {t t' t'' : Tr} {vs : List Value} (R : RTs h N [t, t', t''] vs) : ∃ v v' v'', vs = [v, v', v''] ∧ RT h N t v ∧ RT h N t' v' ∧ RT h N t'' v'' := by
  obtain ⟨u, r, rfl, R₁, R₂⟩ := R
  obtain ⟨v, w, rfl, R₄, R₃⟩ := RTs.two R₂
  exact ⟨u, v, w, rfl, R₁, R₄, R₃⟩

theorem Blt.mk' {P : Pm} (H : PmOK P) {c : Cx} {x : Str} {v : Value} (hx : x ∈ bltNames) (hk : c.env.kindOf x = some .globalImplicit) (hb : bootBuiltins x = some v) (hn : x ≠ "__name__") (hd : (x == ("__debug__" : Str)) = false) : Blt c P x v :=
  ⟨hk, H.blt x hx, hb, hn, hd⟩

theorem b_len {P : Pm} (H : PmOK P) {c : Cx} (hk : c.env.kindOf "len" = some .globalImplicit := by rfl) : Blt c P "len" (.builtin "len") := Blt.mk' H (by decide) hk rfl (by decide) (by decide)
theorem b_list {P : Pm} (H : PmOK P) {c : Cx} (hk : c.env.kindOf "list" = some .globalImplicit := by rfl) : Blt c P "list" (.type "list") := Blt.mk' H (by decide) hk rfl (by decide) (by decide)
theorem b_range {P : Pm} (H : PmOK P) {c : Cx} (hk : c.env.kindOf "range" = some .globalImplicit := by rfl) : Blt c P "range" (.type "range") := Blt.mk' H (by decide) hk rfl (by decide) (by decide)
theorem b_min {P : Pm} (H : PmOK P) {c : Cx} (hk : c.env.kindOf "min" = some .globalImplicit := by rfl) : Blt c P "min" (.builtin "min") := Blt.mk' H (by decide) hk rfl (by decide) (by decide)
theorem b_max {P : Pm} (H : PmOK P) {c : Cx} (hk : c.env.kindOf "max" = some .globalImplicit := by rfl) : Blt c P "max" (.builtin "max") := Blt.mk' H (by decide) hk rfl (by decide) (by decide)
theorem b_sum {P : Pm} (H : PmOK P) {c : Cx} (hk : c.env.kindOf "sum" = some .globalImplicit := by rfl) : Blt c P "sum" (.builtin "sum") := Blt.mk' H (by decide) hk rfl (by decide) (by decide)
theorem b_type {P : Pm} (H : PmOK P) {c : Cx} (hk : c.env.kindOf "type" = some .globalImplicit := by rfl) : Blt c P "type" (.type "type") := Blt.mk' H (by decide) hk rfl (by decide) (by decide)
theorem b_bytes {P : Pm} (H : PmOK P) {c : Cx} (hk : c.env.kindOf "bytes" = some .globalImplicit := by rfl) : Blt c P "bytes" (.type "bytes") := Blt.mk' H (by decide) hk rfl (by decide) (by decide)
theorem b_isinstance {P : Pm} (H : PmOK P) {c : Cx} (hk : c.env.kindOf "isinstance" = some .globalImplicit := by rfl) : Blt c P "isinstance" (.builtin "isinstance") := Blt.mk' H (by decide) hk rfl (by decide) (by decide)
theorem b_issubclass {P : Pm} (H : PmOK P) {c : Cx} (hk : c.env.kindOf "issubclass" = some .globalImplicit := by rfl) : Blt c P "issubclass" (.builtin "issubclass") := Blt.mk' H (by decide) hk rfl (by decide) (by decide)
theorem b_tuple {P : Pm} (H : PmOK P) {c : Cx} (hk : c.env.kindOf "tuple" = some .globalImplicit := by rfl) : Blt c P "tuple" (.type "tuple") := Blt.mk' H (by decide) hk rfl (by decide) (by decide)
theorem b_map {P : Pm} (H : PmOK P) {c : Cx} (hk : c.env.kindOf "map" = some .globalImplicit := by rfl) : Blt c P "map" (.type "map") := Blt.mk' H (by decide) hk rfl (by decide) (by decide)
theorem b_enumerate {P : Pm} (H : PmOK P) {c : Cx} (hk : c.env.kindOf "enumerate" = some .globalImplicit := by rfl) : Blt c P "enumerate" (.type "enumerate") := Blt.mk' H (by decide) hk rfl (by decide) (by decide)
theorem b_sorted {P : Pm} (H : PmOK P) {c : Cx} (hk : c.env.kindOf "sorted" = some .globalImplicit := by rfl) : Blt c P "sorted" (.builtin "sorted") := Blt.mk' H (by decide) hk rfl (by decide) (by decide)

theorem subst_ok (H : PmOK P) {d : Df} (h : (defsOf pw)[1]? = some d) {x y : Str} (hx : x.length ≤ 1) (hy : y.length ≤ 1) : FnOK P (k + 1) d.name [.str x, .str y] [] (.int (subCost x y)) := by
  have hm := H.mem h
  cases h
  refine fn_intro hm (names := ["ch_a", "ch_b"]) (args' := [.str x, .str y]) (by decide) (by intro z hz; simp only [List.mem_cons, List.not_mem_nil, or_false] at hz; rcases hz with rfl | rfl <;> rfl) rfl rfl rfl ?_ ?_
  · intro s a dV kV cdv doc pm an ct N vs D hN R
    have := D.dflt rfl
    subst this
    obtain ⟨u, v, rfl, R₁, R₂⟩ := RTs.two R
    exact BindsR.of_eq (binds := [("ch_a", u), ("ch_b", v)]) (by rfl) ⟨rfl, u, [v], rfl, R₁, v, [], rfl, R₂, rfl⟩
  · intro A L a cdv cells s N O _
    obtain ⟨t1, e1⟩ := H.move
    obtain ⟨t2, e2⟩ := H.case
    refine ex_cons (st_if (ts_cmp (ev_name O rfl) (ev_name O rfl).rd cmp_eqs) (fun q => ex_cons (st_return ev_int ?_)) fun q => ex_nil ?_)
    · simp only [Sq, subCost, q, if_true]
    · refine ex_cons (st_if (ts_cmp (ev_meth0 (ev_name O rfl) m_lower (c_lower (by (first | lia | omega)))) (ev_meth0 (ev_name O rfl) m_lower (c_lower (by (first | lia | omega)))).rd cmp_eqs) (fun q' => ex_cons (st_return (t := .int 1) (ev_global O ⟨_, e2, _, rfl⟩) ?_)) fun q' => ex_nil ?_)
      · simp only [Sq, subCost, q, q', if_true]; rfl
      · refine ex_cons (st_return (t := .int 2) (ev_global O ⟨_, e1, _, rfl⟩) ?_)
        simp only [Sq, subCost, q, q']; rfl
end
end TL
end
/-! ### TP1 -/
section
open PySem PyProof.Rows
namespace TL

/-- how long both begin alike -/
noncomputable def cpl : List Nat → List Nat → Nat
  | x :: a, y :: b => if x = y then cpl a b + 1 else 0
  | _, _ => 0
theorem cpl_le : ∀ a b : List Nat, cpl a b ≤ a.length ∧ cpl a b ≤ b.length
  | x :: a, y :: b => by
    have := cpl_le a b
    unfold cpl
    split <;> simp <;> (first | lia | omega)
  | [], b => by unfold cpl; simp
  | x :: a, [] => by unfold cpl; simp
theorem cpl_more : ∀ (a b : List Nat) (p : Nat), p ≤ cpl a b → ((p < a.length ∧ p < b.length ∧ a.getD p 0 = b.getD p 0) ↔ p < cpl a b)
  | x :: a, y :: b, 0, h => by unfold cpl; split <;> simp_all
  | x :: a, y :: b, p + 1, h => by
    unfold cpl at h ⊢
    split at h
    · rename_i q
      have := cpl_more a b p (by (first | lia | omega))
      simp only [q, if_true, List.length_cons, Nat.add_lt_add_iff_right, List.getD_cons_succ]
      exact this
    · (first | lia | omega)
  | [], b, p, h => by unfold cpl at h ⊢; simp
  | x :: a, [], p, h => by unfold cpl at h ⊢; simp

noncomputable def subc (x y : Nat) : Int := subCost (S [x]) (S [y])

noncomputable def BIG : Int := 9223372036854775807
noncomputable def lrow (bc : Nat) : List Nat → List Int → Int → Int → Int → List Int × Int × Int
  | ac :: as, o :: os, d, r, mn =>
    let r' := min (min r o + 2) (d + subc bc ac)
    let q := lrow bc as os o r' (if r' < mn then r' else mn)
    (r' :: q.1, q.2)
  | _, _, _, r, mn => ([], r, mn)
noncomputable def lrows (a : List Nat) (mc : Int) : List Nat → Nat → List Int → Int → Int
  | [], _, _, res => res
  | bc :: bs, i, row, res =>
    let q := lrow bc a row (2 * i) (2 * i) BIG
    if q.2.2 > mc then mc + 1 else lrows a mc bs (i + 1) q.1 q.2.1
noncomputable def row0 (n : Nat) : List Int := (List.range n).map fun (i : Nat) => 2 + (i : Int) * 2
noncomputable def levShort (a b : List Nat) (mc : Int) : Int :=
  if ((b.length : Int) - a.length) * 2 > mc then mc + 1 else lrows a mc b 0 (row0 a.length) 0
noncomputable def levMid (a b : List Nat) (mc : Int) : Int :=
  if a = [] ∨ b = [] then 2 * ((a.length : Int) + b.length)
  else if b.length < a.length then levShort b a mc else levShort a b mc
noncomputable def levTail (a1 b1 : List Nat) (mc : Int) : Int :=
  levMid (a1.take (a1.length - cpl a1.reverse b1.reverse)) (b1.take (b1.length - cpl a1.reverse b1.reverse)) mc
noncomputable def levFn (a b : List Nat) (mc : Int) : Int :=
  if a = b then 0 else levTail (a.drop (cpl a b)) (b.drop (cpl a b)) mc

theorem item_eq (a b : List Nat) (i j : Nat) (h : i < a.length) (h' : j < b.length) : (Txt.item (S a) (i : Int) == Txt.item (S b) (j : Int)) = (a.getD i 0 == b.getD j 0) := by
  rw [item_nat a i h, item_nat b j h', S_beq]; simp
theorem item_eqn (a b : List Nat) (q : Nat) (h0 : 1 ≤ q) (h : q ≤ a.length) (h' : q ≤ b.length) : (Txt.item (S a) (-(q : Int)) == Txt.item (S b) (-(q : Int))) = (a.reverse.getD (q - 1) 0 == b.reverse.getD (q - 1) 0) := by
  rw [item_neg a q h0 h, item_neg b q h0 h', S_beq]
  have e : ∀ l : List Nat, q ≤ l.length → l.getD (l.length - q) 0 = l.reverse.getD (q - 1) 0 := fun l hl => by
    rw [List.getD_eq_getElem?_getD, List.getD_eq_getElem?_getD, List.getElem?_reverse (by (first | lia | omega))]
    congr 2; (first | lia | omega)
  rw [e a h, e b h']; simp

section
variable {P : Pm} {k : Nat}

noncomputable def postO (q : Nat) : Option Int := if q = 0 then none else some (-(q : Int))
theorem sl_post (l : List Nat) (q : Nat) : strSl (S l) none (postO q) none = S (l.take (l.length - q)) := by
  unfold postO
  by_cases h : q = 0
  · subst h; rw [if_pos rfl, sl_all, Nat.sub_zero, List.take_length]
  · rw [if_neg h, sl_but l q (by (first | lia | omega))]

theorem and3 (x y z : Bool) : (x && (y && (z && true))) = (x && y && z) := by cases x <;> cases y <;> cases z <;> rfl


theorem rng_get {a z st : Int} {n i : Nat} {t : Tr} (h : (intsT (rng a st z n))[i]? = some t) : i < n ∧ t = .int (a + (i : Int) * z) := by
  unfold intsT rng at h
  simp only [List.getElem?_map] at h
  by_cases q : i < n
  · rw [List.getElem?_range q] at h; simp at h; exact ⟨q, h.symm⟩
  · rw [List.getElem?_eq_none (by simp; (first | lia | omega))] at h; simp at h
theorem intsT_get (l : List Int) (j : Nat) (h : j < l.length) : (intsT l)[j]? = some (.int (l.getD j 0)) := by
  unfold intsT; simp [h]
theorem intsT_set (l : List Int) (j : Nat) (x : Int) : (intsT l).set j (.int x) = intsT (l.set j x) := by
  unfold intsT; rw [List.map_set]
theorem intsT_len (l : List Int) : (intsT l).length = l.length := by simp [intsT]
theorem lrow_step (bc : Nat) (a : List Nat) (o : List Int) (d r mn : Int) (j : Nat) (h : j < a.length) (h' : j < o.length) :
    lrow bc (a.drop j) (o.drop j) d r mn = (min (min r (o.getD j 0) + 2) (d + subc bc (a.getD j 0)) :: (lrow bc (a.drop (j + 1)) (o.drop (j + 1)) (o.getD j 0) (min (min r (o.getD j 0) + 2) (d + subc bc (a.getD j 0))) (if min (min r (o.getD j 0) + 2) (d + subc bc (a.getD j 0)) < mn then min (min r (o.getD j 0) + 2) (d + subc bc (a.getD j 0)) else mn)).1,
      (lrow bc (a.drop (j + 1)) (o.drop (j + 1)) (o.getD j 0) (min (min r (o.getD j 0) + 2) (d + subc bc (a.getD j 0))) (if min (min r (o.getD j 0) + 2) (d + subc bc (a.getD j 0)) < mn then min (min r (o.getD j 0) + 2) (d + subc bc (a.getD j 0)) else mn)).2) := by
  rw [List.drop_eq_getElem_cons h, List.drop_eq_getElem_cons h']
  simp only [lrow, List.getD_eq_getElem?_getD, List.getElem?_eq_getElem h, List.getElem?_eq_getElem h', Option.getD_some]
theorem lrows_step (a b : List Nat) (mc : Int) (row : List Int) (res : Int) (i : Nat) (h : i < b.length) :
    lrows a mc (b.drop i) i row res = if (lrow (b.getD i 0) a row (2 * i) (2 * i) BIG).2.2 > mc then mc + 1 else lrows a mc (b.drop (i + 1)) (i + 1) (lrow (b.getD i 0) a row (2 * i) (2 * i) BIG).1 (lrow (b.getD i 0) a row (2 * i) (2 * i) BIG).2.1 := by
  rw [List.drop_eq_getElem_cons h]
  simp only [lrows, List.getD_eq_getElem?_getD, List.getElem?_eq_getElem h, Option.getD_some]
theorem rng2 (n : Nat) (h : n ≤ 8) : Builtin.Range.small 2 (2 * ((n : Int) + 1)) 2 = true ∧ Builtin.Range.rangeSize 2 (2 * ((n : Int) + 1)) 2 = (n : Int) := by
  have : ∀ m : Fin 9, Builtin.Range.small 2 (2 * (((m : Nat) : Int) + 1)) 2 = true ∧ Builtin.Range.rangeSize 2 (2 * (((m : Nat) : Int) + 1)) 2 = ((m : Nat) : Int) := by decide
  exact this ⟨n, by (first | lia | omega)⟩
theorem set_mid (dn rest : List Int) (x y : Int) : (dn ++ y :: rest).set dn.length x = dn ++ [x] ++ rest := by
  simp

theorem lev_inner (H : PmOK P) {d : Df} (h : (defsOf pw)[2]? = some d) {A : Around} {L a' : Addr} {cdv : Value} {cells : List (Str × Addr)} {s : Shared} {N : Addr → Prop} (O : Cx.Ok ⟨P.prog, P.w, A, fenv d L a' cdv cells, s, N⟩ P (k + 1))
    {a b : List Nat} {mc : Int} (hA : a.length ≤ 8) (hB : b.length ≤ 8) :
    ExOK ⟨P.prog, P.w, A, fenv d L a' cdv cells, s, N⟩ [("a", .tree (.str (S a))), ("b", .tree (.str (S b))), ("max_cost", .tree (.int mc))] (d.body.drop 12) (fun f => f = .ret (.int (levShort a b mc))) := by
  obtain ⟨ds, hds⟩ : ∃ ds, (defsOf pw)[1]? = some ds := ⟨_, rfl⟩
  have bl := fun (x : Str) (v : Value) (hx : x ∈ bltNames) => Blt.mk' (P := P) H (c := ⟨P.prog, P.w, A, fenv d L a' cdv cells, s, N⟩) (x := x) (v := v) hx
  obtain ⟨t1, e1⟩ := H.move
  have h8 : (8 : Nat) ≤ sizeLine := by decide
  cases h
  cases hds
  have blen := bl "len" (.builtin "len") (by decide) rfl rfl (by decide) (by decide)
  have bmin := bl "min" (.builtin "min") (by decide) rfl rfl (by decide) (by decide)
  have brange := bl "range" (.type "range") (by decide) rfl rfl (by decide) (by decide)
  have blist := bl "list" (.type "list") (by decide) rfl rfl (by decide) (by decide)
  refine ex_cons (st_if (ts_cmp (ev_mul (ev_sub (ev_call_builtin O blen (args_cons' (ev_name O rfl) args_nil') (c_len_str (by rw [len_S]; (first | lia | omega)))) (ev_call_builtin O blen (args_cons' (ev_name O rfl) args_nil') (c_len_str (by rw [len_S]; (first | lia | omega))))) (ev_global O (r := .int 2) ⟨_, e1, _, rfl⟩) (mul_r (by decide) (by decide))) (ev_name O rfl).rd cmp_gt) (fun q => ex_cons (st_return (ev_add (ev_name O rfl) ev_int) ?_)) fun q => ex_nil ?_)
  · rw [len_S, len_S, decide_eq_true_eq] at q
    unfold levShort
    rw [if_pos (by (first | lia | omega))]
    rfl
  rw [len_S, len_S, decide_eq_false_iff_not] at q
  have hR : levShort a b mc = lrows a mc (b.drop 0) (0 : Nat) (row0 a.length) 0 := by
    unfold levShort
    rw [if_neg (by (first | lia | omega))]; rfl
  rw [hR]
  clear hR q
  obtain ⟨hsm, hrs⟩ := rng2 a.length hA
  refine ex_cons (st_assign_new O (new_list_range O blist brange (ev_global O (r := .int 2) ⟨_, e1, _, rfl⟩) (ev_mul (ev_global O (r := .int 2) ⟨_, e1, _, rfl⟩) (ev_add (ev_call_builtin O blen (args_cons' (ev_name O rfl) args_nil') (c_len_str (by rw [len_S]; (first | lia | omega)))) ev_int) (mul_l (by decide) (by decide))) (ev_global O (r := .int 2) ⟨_, e1, _, rfl⟩) (by decide) (by decide) (by rw [len_S]; exact hsm) (by rw [len_S]; exact hrs) (by (first | lia | omega))) ?_)
  refine ex_cons (st_assign O (.inl rfl) ev_int ?_)
  refine ex_cons (st_for_c (W := List Int × Int) O (fun w => [("row", .own (.list (intsT w.1))), ("result", .tree (.int w.2)), ("a", .tree (.str (S a))), ("b", .tree (.str (S b))), ("max_cost", .tree (.int mc))])
    (fun i w => w.1.length = a.length ∧ lrows a mc (b.drop i) i w.1 w.2 = lrows a mc (b.drop 0) (0 : Nat) (row0 a.length) 0) (.inl rfl)
    (ito_range1 O brange (ev_call_builtin O blen (args_cons' (ev_name O rfl) args_nil') (c_len_str (by rw [len_S]; (first | lia | omega)))) (by rw [len_S]; (first | lia | omega))) (row0 a.length, 0) ⟨by simp [row0], rfl⟩ (sub_cons rfl (sub_cons rfl (sub_cons rfl (sub_cons rfl (sub_cons rfl sub_nil))))) ?_ ?_)
  · rintro i t ⟨row, res⟩ ht ⟨hlen, hrow⟩
    obtain ⟨hi, rfl⟩ := rng_get ht
    rw [len_S] at hi
    dsimp only at hlen hrow ⊢
    rw [show (0 : Int) + (i : Int) * 1 = i by (first | lia | omega)]
    refine ex_cons (st_assign O (.inl rfl) (ev_item_str (ev_name O rfl) (ev_name O rfl) (by rw [len_S]; (first | lia | omega)) (by rw [len_S]; (first | lia | omega)) (by rw [len_S]; (first | lia | omega)) (fun _ _ => rfl) fun _ _ => rfl) ?_)
    rw [item_nat b i hi]
    refine ex_cons (st_assign2 O (.inl rfl) (.inl rfl) (ev_mul (ev_name O rfl) (ev_global O (r := .int 2) ⟨_, e1, _, rfl⟩) (mul_r (by decide) (by decide))) ?_)
    refine ex_cons (st_assign O (.inl rfl) ev_int ?_)
    rw [lrows_step a b mc row res i hi, show (2 : Int) * (i : Nat) = (i : Int) * 2 by (first | lia | omega)] at hrow
    generalize hbc : b.getD i 0 = bc at hrow ⊢
    refine ex_cons (st_for_c (W := List Int × Int × Int × Int) O (fun w => [("row", .own (.list (intsT (w.1 ++ row.drop w.1.length)))), ("distance", .tree (.int w.2.1)), ("result", .tree (.int w.2.2.1)), ("minimum", .tree (.int w.2.2.2)), ("bchar", .tree (.str (S [bc]))), ("a", .tree (.str (S a))), ("b", .tree (.str (S b))), ("max_cost", .tree (.int mc))])
      (fun j w => w.1.length = j ∧ j ≤ a.length ∧ (w.1 ++ (lrow bc (a.drop j) (row.drop j) w.2.1 w.2.2.1 w.2.2.2).1, (lrow bc (a.drop j) (row.drop j) w.2.1 w.2.2.1 w.2.2.2).2) = lrow bc a row ((i : Int) * 2) ((i : Int) * 2) BIG) (.inl rfl)
      (ito_range1 O brange (ev_call_builtin O blen (args_cons' (ev_name O rfl) args_nil') (c_len_str (by rw [len_S]; (first | lia | omega)))) (by rw [len_S]; (first | lia | omega))) ([], (i : Int) * 2, (i : Int) * 2, BIG) ⟨rfl, by (first | lia | omega), rfl⟩ (sub_cons rfl (sub_cons rfl (sub_cons rfl (sub_cons rfl (sub_cons rfl (sub_cons rfl (sub_cons rfl (sub_cons rfl sub_nil)))))))) ?_ ?_)
    · rintro j t ⟨dn, dd, r, mn⟩ ht ⟨hj, hja, hrw⟩
      obtain ⟨hji, rfl⟩ := rng_get ht
      rw [len_S] at hji
      dsimp only at hj hrw ⊢
      rw [show (0 : Int) + (j : Int) * 1 = j by (first | lia | omega), hj]
      have hgl : (dn ++ row.drop j).length = a.length := by simp; (first | lia | omega)
      have hgj : (intsT (dn ++ row.drop j))[((j : Int)).toNat]? = some (.int (row.getD j 0)) := by
        rw [Int.toNat_natCast, intsT_get _ _ (by (first | lia | omega)), List.getD_eq_getElem?_getD, List.getD_eq_getElem?_getD, List.getElem?_append_right (by (first | lia | omega)), List.getElem?_drop, show j + (j - dn.length) = j by (first | lia | omega)]
      refine ex_cons (st_assign O (.inl rfl) (ev_add (ev_name O rfl) (ev_call O (H.mem (i := 1) rfl) rfl (args_cons' (ev_name O rfl) (args_cons' (ev_item_str (ev_name O rfl) (ev_name O rfl) (by rw [len_S]; (first | lia | omega)) (by rw [len_S]; (first | lia | omega)) (by rw [len_S]; (first | lia | omega)) (fun _ _ => rfl) fun _ _ => rfl) args_nil')) (subst_ok H (h := rfl) (by simp [len_S]) (by rw [item_nat a j hji]; simp [len_S])))) ?_)
      rw [item_nat a j hji]
      refine ex_cons (st_assign O (.inl rfl) (ev_item_list (rd_own O rfl) (ev_name O rfl) (by (first | lia | omega)) (by (first | lia | omega)) hgj (fun _ _ => rfl)) ?_)
      refine ex_cons (st_assign O (.inl rfl) (ev_add (ev_call_builtin O bmin (args_cons' (ev_name O rfl) (args_cons' (ev_name O rfl) args_nil')) (c_min2 O.hh)) (ev_global O (r := .int 2) ⟨_, e1, _, rfl⟩)) ?_)
      refine ex_cons (st_assign O (.inl rfl) (ev_call_builtin O bmin (args_cons' (ev_name O rfl) (args_cons' (ev_name O rfl) args_nil')) (c_min2 O.hh)) ?_)
      refine ex_cons (st_setitem O rfl (ev_name O rfl) (ev_name O rfl) (by (first | lia | omega)) (by rw [intsT_len, hgl]; (first | lia | omega)) (by rw [intsT_len, hgl]; (first | lia | omega)) ?_)
      rw [lrow_step bc a row dd r mn j hji (by (first | lia | omega))] at hrw
      rw [show subCost (S [bc]) (S [a.getD j 0]) = subc bc (a.getD j 0) from rfl]
      generalize hr' : min (min r (row.getD j 0) + 2) (dd + subc bc (a.getD j 0)) = r' at hrw ⊢
      rw [intsT_set, Int.toNat_natCast]
      have hset : (dn ++ row.drop j).set j r' = (dn ++ [r']) ++ row.drop (dn ++ [r']).length := by
        rw [List.drop_eq_getElem_cons (by (first | lia | omega) : j < row.length)]
        have := set_mid dn (row.drop (j + 1)) r' (row[j]'(by (first | lia | omega)))
        rw [hj] at this
        rw [this]; simp [hj]
      rw [hset]
      have fin : ∀ mn', mn' = (if r' < mn then r' else mn) → ((dn ++ [r']).length = j + 1 ∧ j + 1 ≤ a.length ∧ ((dn ++ [r']) ++ (lrow bc (a.drop (j + 1)) (row.drop (j + 1)) (row.getD j 0) r' mn').1, (lrow bc (a.drop (j + 1)) (row.drop (j + 1)) (row.getD j 0) r' mn').2) = lrow bc a row ((i : Int) * 2) ((i : Int) * 2) BIG) := fun mn' e => by
        subst e
        refine ⟨by simp [hj], by (first | lia | omega), ?_⟩
        rw [← hrw]; simp
      refine ex_cons (st_if (ts_cmp (ev_name O rfl) (ev_name O rfl).rd cmp_lt) (fun q => ex_cons (st_assign O (.inl rfl) (ev_name O rfl) (ex_nil (ex_nil ⟨(dn ++ [r'], row.getD j 0, r', r'), fin r' ?_, ?_⟩)))) fun q => ex_nil (ex_nil ⟨(dn ++ [r'], row.getD j 0, r', mn), fin mn ?_, ?_⟩))
      · rw [decide_eq_true_eq] at q; rw [if_pos q]
      · exact sub_cons rfl (sub_cons rfl (sub_cons rfl (sub_cons rfl (sub_cons rfl (sub_cons rfl (sub_cons rfl (sub_cons rfl sub_nil)))))))
      · rw [decide_eq_false_iff_not] at q; rw [if_neg q]
      · exact sub_cons rfl (sub_cons rfl (sub_cons rfl (sub_cons rfl (sub_cons rfl (sub_cons rfl (sub_cons rfl (sub_cons rfl sub_nil)))))))
    · rintro σ' ⟨dn, dd, r, mn⟩ ⟨hj, hja, hrw⟩ hS
      rw [intsT_len, show (rng 0 (((S a).length : Nat)) 1 (S a).length).length = a.length by simp [rng, len_S]] at hj hrw
      rw [List.drop_of_length_le (by (first | lia | omega)), List.drop_of_length_le (by (first | lia | omega))] at hrw
      dsimp only at hj hrw
      simp only [lrow, List.append_nil] at hrw
      rw [← hrw] at hrow
      dsimp only at hrow
      refine ex_to hS ?_
      dsimp only
      rw [List.drop_of_length_le (by (first | lia | omega)), List.append_nil]
      refine ex_cons (st_if (ts_cmp (ev_name O rfl) (ev_name O rfl).rd cmp_gt) (fun q => ex_cons (st_return (ev_add (ev_name O rfl) ev_int) ?_)) fun q => ex_nil (ex_nil ⟨(dn, r), ⟨by (first | lia | omega), ?_⟩, ?_⟩))
      · rw [decide_eq_true_eq] at q
        rw [if_pos (by (first | lia | omega))] at hrow
        show Fl.ret _ = Fl.ret _
        rw [hrow]
      · rw [decide_eq_false_iff_not] at q
        rw [if_neg (by (first | lia | omega))] at hrow
        exact hrow
      · exact sub_cons rfl (sub_cons rfl (sub_cons rfl (sub_cons rfl (sub_cons rfl sub_nil))))
  · rintro σ' ⟨row, res⟩ ⟨hlen, hrow⟩ hS
    refine ex_to hS ?_
    refine ex_cons (st_return (ev_name O rfl) ?_)
    rw [intsT_len, show (rng 0 (((S b).length : Nat)) 1 (S b).length).length = b.length by simp [rng, len_S], List.drop_of_length_le (Nat.le_refl _)] at hrow
    show Fl.ret _ = Fl.ret _
    rw [← hrow]; rfl

theorem lev_ok (H : PmOK P) {d : Df} (h : (defsOf pw)[2]? = some d) {a b : List Nat} {mc : Int} (hA : a.length ≤ 8) (hB : b.length ≤ 8) : FnOK P (k + 2) d.name [.str (S a), .str (S b), .int mc] [] (.int (levFn a b mc)) := by
  have hm := H.mem h
  obtain ⟨ds, hds⟩ : ∃ ds, (defsOf pw)[1]? = some ds := ⟨_, rfl⟩
  cases h
  refine fn_intro hm (names := ["a", "b", "max_cost"]) (args' := [.str (S a), .str (S b), .int mc]) (by decide) (by intro z hz; simp only [List.mem_cons, List.not_mem_nil, or_false] at hz; rcases hz with rfl | rfl | rfl <;> rfl) rfl rfl rfl ?_ ?_
  · intro s a' dV kV cdv doc pm an ct N vs D hN R
    have := D.dflt rfl
    subst this
    obtain ⟨u, v, w, rfl, R₁, R₂, R₃⟩ := RTs.three R
    exact BindsR.of_eq (binds := [("a", u), ("b", v), ("max_cost", w)]) (by rfl) ⟨rfl, u, [v, w], rfl, R₁, v, [w], rfl, R₂, w, [], rfl, R₃, rfl⟩
  · intro A L a' cdv cells s N O _
    obtain ⟨t1, e1⟩ := H.move
    obtain ⟨t2, e2⟩ := H.case
    refine ex_cons (st_if (ts_cmp (ev_name O rfl) (ev_name O rfl).rd cmp_eqs) (fun q => ex_cons (st_return (t := .int 0) ev_int ?_)) fun q => ex_nil ?_)
    · have : a = b := by simpa [S_beq] using q
      simp only [Sq, levFn, this, if_true]
    have hne : a ≠ b := by simpa [S_beq] using q
    clear q
    refine ex_cons (st_assign O (.inl rfl) ev_int ?_)
    refine ex_cons (st_while_c (W := Nat) (fun p => [("pre", .tree (.int p)), ("a", .tree (.str (S a))), ("b", .tree (.str (S b))), ("max_cost", .tree (.int mc))]) (fun n p => p + n = cpl a b) (cpl a b) 0 (by (first | lia | omega)) (sub_cons rfl (sub_cons rfl (sub_cons rfl (sub_cons rfl sub_nil)))) ?_)
    intro n p hp
    have hcl := cpl_le a b
    have hmore := cpl_more a b p (by (first | lia | omega))
    have h8 : (8 : Nat) ≤ sizeLine := by decide
    have e3 : ∀ x : List Nat, strSl (S x) (some (p : Int)) none none = S (x.drop p) := fun x => sl_from x p
    refine ⟨decide (p < cpl a b), ?_, ?_, ?_⟩
    · refine ts_eq ?_ (ts_bool (all_and (ts_value (ev_slice_str (lo := some (p : Int)) (hi := none) (st := none) (ev_name O rfl) (part_int (ev_name O rfl)) part_no part_no (by simp) (by rw [len_S]; (first | lia | omega)) (fun _ _ => ⟨_, rfl⟩)).rd (tr_str (by rw [e3, len_S]; simp; (first | lia | omega))))
          fun q1 => all_and (ts_value (ev_slice_str (lo := some (p : Int)) (hi := none) (st := none) (ev_name O rfl) (part_int (ev_name O rfl)) part_no part_no (by simp) (by rw [len_S]; (first | lia | omega)) (fun _ _ => ⟨_, rfl⟩)).rd (tr_str (by rw [e3, len_S]; simp; (first | lia | omega))))
          fun q2 => all_and (ts_cmp (ev_item_str (ev_name O rfl) (ev_name O rfl) (by rw [len_S]; (first | lia | omega)) (by rw [e3, len_S] at q1; simp at q1; rw [len_S]; (first | lia | omega)) (by rw [len_S]; (first | lia | omega)) (fun _ _ => rfl) fun _ _ => rfl)
            (ev_item_str (ev_name O rfl) (ev_name O rfl) (by rw [len_S]; (first | lia | omega)) (by rw [e3, len_S] at q2; simp at q2; rw [len_S]; (first | lia | omega)) (by rw [len_S]; (first | lia | omega)) (fun _ _ => rfl) fun _ _ => rfl).rd cmp_eqs)
          fun _ => all_and_nil))
      rw [and3, e3, e3, len_S, len_S, List.length_drop, List.length_drop]
      by_cases hq : p < a.length ∧ p < b.length
      · rw [item_eq a b p p hq.1 hq.2]
        simp only [hq, true_and] at hmore
        have e1 : (a.length - p != 0) = true := by simp; (first | lia | omega)
        have e2 : (b.length - p != 0) = true := by simp; (first | lia | omega)
        rw [e1, e2]
        simp only [Bool.true_and]
        rw [Bool.eq_iff_iff]; simpa using hmore
      · have : ¬ p < cpl a b := fun z => hq ⟨(hmore.mpr z).1, (hmore.mpr z).2.1⟩
        have : ((a.length - p != 0) && (b.length - p != 0)) = false := by
          rw [Bool.eq_false_iff]; intro z
          simp at z
          (first | lia | omega)
        rw [this]; simp; (first | lia | omega)
    · intro hb
      simp only [decide_eq_true_eq] at hb
      refine ex_cons (st_aug O (.inl rfl) rfl ev_int inp_add ?_)
      refine ex_nil ⟨n - 1, by (first | lia | omega), p + 1, by (first | lia | omega), sub_cons rfl (sub_cons rfl (sub_cons rfl (sub_cons rfl sub_nil)))⟩
    · intro hb σ' hS
      simp only [decide_eq_false_iff_not] at hb
      have hp : p = cpl a b := by (first | lia | omega)
      clear hb hmore
      refine ex_to hS ?_
      clear hS
      refine ex_cons (st_assign O (.inl rfl) (ev_slice_str (lo := some (p : Int)) (hi := none) (st := none) (ev_name O rfl) (part_int (ev_name O rfl)) part_no part_no (by simp) (by rw [len_S]; (first | lia | omega)) (fun _ _ => ⟨_, rfl⟩)) ?_)
      refine ex_cons (st_assign O (.inl rfl) (ev_slice_str (lo := some (p : Int)) (hi := none) (st := none) (ev_name O rfl) (part_int (ev_name O rfl)) part_no part_no (by simp) (by rw [len_S]; (first | lia | omega)) (fun _ _ => ⟨_, rfl⟩)) ?_)
      rw [e3, e3]
      refine ex_cons (st_assign O (.inl rfl) ev_int ?_)
      obtain ⟨a1, hA1⟩ : ∃ a1, a1 = a.drop p := ⟨_, rfl⟩
      obtain ⟨b1, hB1⟩ : ∃ b1, b1 = b.drop p := ⟨_, rfl⟩
      have hl1 : a1.length ≤ 8 := by rw [hA1, List.length_drop]; (first | lia | omega)
      have hl2 : b1.length ≤ 8 := by rw [hB1, List.length_drop]; (first | lia | omega)
      have hR : levFn a b mc = levMid (a1.take (a1.length - cpl a1.reverse b1.reverse)) (b1.take (b1.length - cpl a1.reverse b1.reverse)) mc := by
        unfold levFn
        rw [if_neg hne, ← hp, ← hA1, ← hB1]
        rfl
      rw [hR, ← hA1, ← hB1]
      clear hR hA1 hB1 e3 hp hcl hne hA hB
      refine ex_cons (st_while_c (W := Nat) (fun q => [("post", .tree (.int (-(q : Int)))), ("a", .tree (.str (S a1))), ("b", .tree (.str (S b1))), ("max_cost", .tree (.int mc))]) (fun n q => q + n = cpl a1.reverse b1.reverse) (cpl a1.reverse b1.reverse) 0 (by (first | lia | omega)) (sub_cons rfl (sub_cons rfl (sub_cons rfl (sub_cons rfl sub_nil)))) ?_)
      intro n q hq
      have hcl := cpl_le a1.reverse b1.reverse
      have hmore := cpl_more a1.reverse b1.reverse q (by (first | lia | omega))
      rw [List.length_reverse, List.length_reverse] at hcl hmore
      have hpt : ∀ {c' : Cx} (O' : c'.Ok P (k + 1)) {σ' : Sg} {p1 p2 p3 : Pos} {k1 : Nat}, σ'.lookup ("post" : Str) = some (LV.tree (Tr.int (-(q : Int)))) → PartOK c' σ' (some (.BoolOp .Or [.Name ("post" : Str) p1, .Constant .none k1 p2] p3)) (postO q) := fun O' σ' p1 p2 p3 k1 hl => by
        unfold postO
        by_cases hz : q = 0
        · subst hz
          rw [if_pos rfl]
          exact part_none (ev_or2 (ev_name O' hl) tr_int (fun z => by simp at z) fun _ => ev_none)
        · rw [if_neg hz]
          exact part_int (ev_or2 (ev_name O' hl) tr_int (fun z => rfl) fun z => by simp at z; (first | lia | omega))
      refine ⟨decide (q < cpl a1.reverse b1.reverse), ?_, ?_, ?_⟩
      · refine ts_eq ?_ (ts_bool (all_and (ts_value (ev_slice_str (lo := none) (hi := postO q) (st := none) (ev_name O rfl) part_no (hpt O rfl) part_no (by simp) (by rw [len_S]; (first | lia | omega)) (fun _ _ => ⟨_, rfl⟩)).rd (tr_str (by rw [sl_post, len_S]; simp; (first | lia | omega))))
            fun q1 => all_and (ts_value (ev_slice_str (lo := none) (hi := postO q) (st := none) (ev_name O rfl) part_no (hpt O rfl) part_no (by simp) (by rw [len_S]; (first | lia | omega)) (fun _ _ => ⟨_, rfl⟩)).rd (tr_str (by rw [sl_post, len_S]; simp; (first | lia | omega))))
            fun q2 => all_and (ts_cmp (ev_item_str (ev_name O rfl) (ev_sub (ev_name O rfl) ev_int) (by rw [sl_post, len_S] at q1; simp at q1; rw [len_S]; (first | lia | omega)) (by rw [len_S]; (first | lia | omega)) (by rw [len_S]; (first | lia | omega)) (fun _ _ => rfl) fun _ _ => rfl)
              (ev_item_str (ev_name O rfl) (ev_sub (ev_name O rfl) ev_int) (by rw [sl_post, len_S] at q2; simp at q2; rw [len_S]; (first | lia | omega)) (by rw [len_S]; (first | lia | omega)) (by rw [len_S]; (first | lia | omega)) (fun _ _ => rfl) fun _ _ => rfl).rd cmp_eqs)
            fun _ => all_and_nil))
        rw [and3, sl_post, sl_post, len_S, len_S, List.length_take, List.length_take]
        by_cases hq' : q < a1.length ∧ q < b1.length
        · have : (-(q : Int) - 1) = -((q + 1 : Nat) : Int) := by (first | lia | omega)
          rw [this, item_eqn a1 b1 (q + 1) (by (first | lia | omega)) (by (first | lia | omega)) (by (first | lia | omega))]
          simp only [hq', true_and] at hmore
          have e1 : (min (a1.length - q) a1.length != 0) = true := by simp; (first | lia | omega)
          have e2 : (min (b1.length - q) b1.length != 0) = true := by simp; (first | lia | omega)
          rw [e1, e2]
          simp only [Bool.true_and, Nat.add_sub_cancel]
          rw [Bool.eq_iff_iff]; simpa using hmore
        · have : ¬ q < cpl a1.reverse b1.reverse := fun z => hq' ⟨(hmore.mpr z).1, (hmore.mpr z).2.1⟩
          have : ((min (a1.length - q) a1.length != 0) && (min (b1.length - q) b1.length != 0)) = false := by
            rw [Bool.eq_false_iff]; intro z
            simp at z
            (first | lia | omega)
          rw [this]; simp; (first | lia | omega)
      · intro hb
        simp only [decide_eq_true_eq] at hb
        refine ex_cons (st_aug O (.inl rfl) rfl ev_int inp_sub ?_)
        refine ex_nil ⟨n - 1, by (first | lia | omega), q + 1, by (first | lia | omega), sub_cons ?_ (sub_cons rfl (sub_cons rfl (sub_cons rfl sub_nil)))⟩
        show some (LV.tree (.int (-(q : Int) - 1))) = _
        congr 3; (first | lia | omega)
      · intro hb σ' hS
        simp only [decide_eq_false_iff_not] at hb
        have hp : q = cpl a1.reverse b1.reverse := by (first | lia | omega)
        clear hb hmore
        refine ex_to hS ?_
        clear hS
        refine ex_cons (st_assign O (.inl rfl) (ev_slice_str (lo := none) (hi := postO q) (st := none) (ev_name O rfl) part_no (hpt O rfl) part_no (by simp) (by rw [len_S]; (first | lia | omega)) (fun _ _ => ⟨_, rfl⟩)) ?_)
        refine ex_cons (st_assign O (.inl rfl) (ev_slice_str (lo := none) (hi := postO q) (st := none) (ev_name O rfl) part_no (hpt O rfl) part_no (by simp) (by rw [len_S]; (first | lia | omega)) (fun _ _ => ⟨_, rfl⟩)) ?_)
        rw [sl_post, sl_post, ← hp]
        obtain ⟨a2, hA2⟩ : ∃ a2, a2 = a1.take (a1.length - q) := ⟨_, rfl⟩
        obtain ⟨b2, hB2⟩ : ∃ b2, b2 = b1.take (b1.length - q) := ⟨_, rfl⟩
        have hl3 : a2.length ≤ 8 := by rw [hA2, List.length_take]; (first | lia | omega)
        have hl4 : b2.length ≤ 8 := by rw [hB2, List.length_take]; (first | lia | omega)
        rw [← hA2, ← hB2]
        refine ex_to (σ₀ := [("a", .tree (.str (S a2))), ("b", .tree (.str (S b2))), ("max_cost", .tree (.int mc))]) (sub_cons rfl (sub_cons rfl (sub_cons rfl sub_nil))) ?_
        clear hA2 hB2 hp hcl hpt hl1 hl2
        obtain ⟨t3, e3⟩ := H.most
        refine ex_cons (st_if (ts_bool (all_or (ts_not (ts_value (ev_name O rfl).rd (tr_str (by rw [len_S]; (first | lia | omega))))) fun _ => all_or (ts_not (ts_value (ev_name O rfl).rd (tr_str (by rw [len_S]; (first | lia | omega))))) fun _ => all_or_nil))
          (fun q => ex_cons (st_return (ev_mul (ev_global O (r := .int 2) ⟨_, e1, _, rfl⟩) (ev_add (ev_call_builtin O (b_len H) (args_cons' (ev_name O rfl) args_nil') (c_len_str (by rw [len_S]; (first | lia | omega)))) (ev_call_builtin O (b_len H) (args_cons' (ev_name O rfl) args_nil') (c_len_str (by rw [len_S]; (first | lia | omega))))) (mul_l (by decide) (by decide))) ?_)) fun q => ex_nil ?_)
        · rw [len_S, len_S] at q ⊢
          simp at q
          unfold levMid
          rw [if_pos q]
          rfl
        rw [len_S, len_S] at q
        simp at q
        refine ex_cons (st_if (b := false) (ts_eq (by rw [len_S, len_S]; simp; (first | lia | omega)) (ts_bool (all_or (ts_cmp (ev_call_builtin O (b_len H) (args_cons' (ev_name O rfl) args_nil') (c_len_str (by rw [len_S]; (first | lia | omega)))) (ev_global O (r := .int 40) ⟨_, e3, _, rfl⟩).rd cmp_gt)
          fun _ => all_or (ts_cmp (ev_call_builtin O (b_len H) (args_cons' (ev_name O rfl) args_nil') (c_len_str (by rw [len_S]; (first | lia | omega)))) (ev_global O (r := .int 40) ⟨_, e3, _, rfl⟩).rd cmp_gt) fun _ => all_or_nil))) (fun q => by cases q) fun _ => ex_nil ?_)
        unfold levMid
        rw [if_neg (by simp only [not_or]; exact q)]
        refine ex_cons (st_if (ts_cmp (ev_call_builtin O (b_len H) (args_cons' (ev_name O rfl) args_nil') (c_len_str (by rw [len_S]; (first | lia | omega)))) (ev_call_builtin O (b_len H) (args_cons' (ev_name O rfl) args_nil') (c_len_str (by rw [len_S]; (first | lia | omega)))).rd cmp_lt) (fun q => ex_cons (st_swap2 O (.inl rfl) (.inl rfl) (up_tuple O (ev_tuple (args_cons' (ev_name O rfl) (args_cons' (ev_name O rfl) args_nil')) (by show 2 ≤ sizeLine; decide))) (ex_nil ?_))) fun q => ex_nil ?_)
        · rw [decide_eq_true_eq, len_S, len_S] at q
          rw [if_pos (by (first | lia | omega))]
          exact ex_to (σ₀ := [("a", .tree (.str (S b2))), ("b", .tree (.str (S a2))), ("max_cost", .tree (.int mc))]) (sub_cons rfl (sub_cons rfl (sub_cons rfl sub_nil))) (lev_inner H (h := rfl) O hl4 hl3)
        · rw [decide_eq_false_iff_not, len_S, len_S] at q
          rw [if_neg (by (first | lia | omega))]
          exact lev_inner H (h := rfl) O hl3 hl4
end
end TL
end
/-! ### TP2 -/
section
open PySem PyProof.Rows
namespace TL
section
variable {P : Pm} {k : Nat}

theorem buffer_ok (H : PmOK P) {d : Df} (h : (defsOf pw)[3]? = some d) {x : Array UInt8} : FnOK P (k + 1) d.name [.bytes x] [] (.bytes x) := by
  have hm := H.mem h
  cases h
  refine fn_intro hm (names := ["data"]) (args' := [.bytes x]) (by decide) (by intro z hz; simp only [List.mem_cons, List.not_mem_nil, or_false] at hz; subst hz; rfl) rfl rfl rfl ?_ ?_
  · intro s a dV kV cdv doc pm an ct N vs D hN R
    have := D.dflt rfl
    subst this
    obtain ⟨u, rfl, R₁⟩ := RTs.one R
    exact BindsR.of_eq (binds := [("data", u)]) (by rfl) ⟨rfl, u, [], rfl, R₁, rfl⟩
  · intro A L a cdv cells s N O _
    refine ex_cons (st_assign O (.inl rfl) (ev_call_type O (b_type H) (args_cons' (ev_name O rfl) args_nil') (c_type (by intro n z; cases z))) ?_)
    refine ex_cons (st_if (ts_cmp (ev_name O rfl) (ev_type O (H.blt _ (by decide)) rfl).rd (cmp_isT (t := true) (by rfl))) (fun _ => ex_cons (st_return (ev_name O rfl) rfl)) (fun z => by cases z))

theorem truth_ok (H : PmOK P) {d : Df} (h : (defsOf pw)[4]? = some d) {x : Bool} : FnOK P (k + 1) d.name [.bool x] [] (.bool x) := by
  have hm := H.mem h
  cases h
  refine fn_intro hm (names := ["x"]) (args' := [.bool x]) (by decide) (by intro z hz; simp only [List.mem_cons, List.not_mem_nil, or_false] at hz; subst hz; rfl) rfl rfl rfl ?_ ?_
  · intro s a dV kV cdv doc pm an ct N vs D hN R
    have := D.dflt rfl
    subst this
    obtain ⟨u, rfl, R₁⟩ := RTs.one R
    exact BindsR.of_eq (binds := [("x", u)]) (by rfl) ⟨rfl, u, [], rfl, R₁, rfl⟩
  · intro A L a cdv cells s N O _
    refine ex_cons (st_assign O (.inl rfl) (ev_call_type O (b_type H) (args_cons' (ev_name O rfl) args_nil') (c_type (by intro n z; cases z))) ?_)
    refine ex_cons (st_if (ts_bool (all_or (ts_cmp (ev_name O rfl) ev_none.rd cmp_isN) fun _ => all_or (b := true) (ts_cmp (ev_name O rfl) (ev_type O (H.blt _ (by decide)) rfl).rd (cmp_isT (t := true) (by rfl))) (fun z => by cases z))) (fun _ => ex_cons (st_return (ev_ifexp (ts_value (ev_name O rfl).rd tr_bool) (fun q => by rw [q]; exact ev_bool) (fun q => by rw [q]; exact ev_bool)) rfl)) (fun z => by cases z))

theorem fspath_ok (H : PmOK P) {d : Df} (h : (defsOf pw)[9]? = some d) {x : Str} : FnOK P (k + 1) d.name [.str x] [] (.str x) := by
  have hm := H.mem h
  cases h
  refine fn_intro hm (names := ["path"]) (args' := [.str x]) (by decide) (by intro z hz; simp only [List.mem_cons, List.not_mem_nil, or_false] at hz; subst hz; rfl) rfl rfl rfl ?_ ?_
  · intro s a dV kV cdv doc pm an ct N vs D hN R
    have := D.dflt rfl
    subst this
    obtain ⟨u, rfl, R₁⟩ := RTs.one R
    exact BindsR.of_eq (binds := [("path", u)]) (by rfl) ⟨rfl, u, [], rfl, R₁, rfl⟩
  · intro A L a cdv cells s N O _
    refine ex_cons (st_assign O (.inl rfl) (ev_call_type O (b_type H) (args_cons' (ev_name O rfl) args_nil') (c_type (by intro n z; cases z))) ?_)
    refine ex_cons (st_if (ts_value (ev_call_builtin O (b_issubclass H) (args_cons' (ev_name O rfl) (args_cons' (ev_tuple (args_cons' (ev_type O (H.blt _ (by decide)) rfl) (args_cons' (ev_type O (H.blt _ (by decide)) rfl) args_nil')) (by show 2 ≤ sizeLine; decide)) args_nil')) (c_issub F.isi_meta_str F.sub_str_str)).rd tr_bool) (fun _ => ex_cons (st_return (ev_name O rfl) rfl)) (fun z => by cases z))

theorem get_sep_ok (H : PmOK P) {d : Df} (h : (defsOf pw)[11]? = some d) {x : Str} : FnOK P (k + 1) d.name [.str x] [] (.str "/") := by
  have hm := H.mem h
  cases h
  refine fn_intro hm (names := ["path"]) (args' := [.str x]) (by decide) (by intro z hz; simp only [List.mem_cons, List.not_mem_nil, or_false] at hz; subst hz; rfl) rfl rfl rfl ?_ ?_
  · intro s a dV kV cdv doc pm an ct N vs D hN R
    have := D.dflt rfl
    subst this
    obtain ⟨u, rfl, R₁⟩ := RTs.one R
    exact BindsR.of_eq (binds := [("path", u)]) (by rfl) ⟨rfl, u, [], rfl, R₁, rfl⟩
  · intro A L a cdv cells s N O _
    refine ex_cons (st_if (ts_value (ev_call_builtin O (b_isinstance H) (args_cons' (ev_name O rfl) (args_cons' (ev_type O (H.blt _ (by decide)) rfl) args_nil')) c_isi_str_bytes).rd tr_bool) (fun z => by cases z) (fun _ => ex_cons (st_return ev_str rfl)))
end
end TL
end
/-! ### TP3 -/
section
open PySem PyProof.Rows
namespace TL

noncomputable def b64L : List UInt8 := "ABCDEFGHIJKLMNOPQRSTUVWXYZabcdefghijklmnopqrstuvwxyz0123456789+/".toUTF8.data.toList
noncomputable def sg (i : Nat) : Nat := (b64L.getD i 0).toNat
theorem b64L_len : b64L.length = 64 := by decide +kernel

noncomputable def b64in (lc lb : Nat) : List Nat × Nat :=
  if h : 6 ≤ lb then ((lc / 2 ^ (lb - 6) % 64) :: (b64in lc (lb - 6)).1, (b64in lc (lb - 6)).2) else ([], lb)
termination_by lb
decreasing_by all_goals (first | lia | omega)
noncomputable def b64go : List Nat → Nat → Nat → List Nat × Nat × Nat
  | [], lc, lb => ([], lc, lb)
  | b :: bs, lc, lb => ((b64in ((lc * 256 + b) % 65536) (lb + 8)).1 ++ (b64go bs ((lc * 256 + b) % 65536) (b64in ((lc * 256 + b) % 65536) (lb + 8)).2).1, (b64go bs ((lc * 256 + b) % 65536) (b64in ((lc * 256 + b) % 65536) (lb + 8)).2).2)

theorem bitOr_low (a b : Nat) (h : b < 256) : Builtin.bitOr ((a : Int) * 2 ^ 8) (b : Int) = ((a * 256 + b : Nat) : Int) := by
  have h1 : ∀ n : Nat, Builtin.bitNot (n : Int) = -(n : Int) - 1 := fun n => by unfold Builtin.bitNot; (first | lia | omega)
  have e : ((a : Int) * 2 ^ 8) = ((a * 256 : Nat) : Int) := by push_cast; rfl
  rw [e]
  unfold Builtin.bitOr Builtin.bitAnd
  rw [h1, h1]
  have n1 : decide ((0 : Int) ≤ -((a * 256 : Nat) : Int) - 1) = false := by rw [decide_eq_false_iff_not]; (first | lia | omega)
  have n2 : decide ((0 : Int) ≤ -(b : Int) - 1) = false := by rw [decide_eq_false_iff_not]; (first | lia | omega)
  rw [n1, n2]
  simp only
  have h2 : ∀ n : Nat, (Builtin.bitNot (-(n : Int) - 1)).toNat = n := fun n => by unfold Builtin.bitNot; (first | lia | omega)
  rw [h2, h2]
  have h3 : ∀ n : Nat, Builtin.bitNot (Builtin.bitNot (n : Int)) = n := fun n => by unfold Builtin.bitNot; (first | lia | omega)
  rw [h3]
  have := Nat.shiftLeft_add_eq_or_of_lt (i := 8) (b := b) (by (first | lia | omega)) a
  rw [Nat.shiftLeft_eq] at this
  rw [← this]

noncomputable def sgs (l : List Nat) : List Int := l.map fun i => (sg i : Int)

theorem byteArr_sgs (l : List Nat) : byteArr (sgs l) = (l.map fun i => b64L.getD i 0).toArray := by
  unfold byteArr sgs sg
  congr 1
  rw [List.map_map]
  apply List.map_congr_left
  intro i _
  simp

section
variable {P : Pm} {k : Nat}

theorem b2a_ok (H : PmOK P) {d : Df} (h : (defsOf pw)[5]? = some d) {x : List UInt8} (hz : (b64go (x.map UInt8.toNat) 0 0).2.2 = 0) (hs : (b64go (x.map UInt8.toNat) 0 0).1.length ≤ 100) :
    FnOK P (k + 2) d.name [.bytes x.toArray] [("newline", .bool false)] (.bytes (((b64go (x.map UInt8.toNat) 0 0).1.map fun i => b64L.getD i 0).toArray)) := by
  have hm := H.mem h
  have h100 : (100 : Nat) ≤ sizeLine := by decide
  cases h
  refine fn_intro hm (names := ["data", "newline"]) (args' := [.bytes x.toArray, .bool false]) (by decide) (by intro z hz; simp only [List.mem_cons, List.not_mem_nil, or_false] at hz; rcases hz with rfl | rfl <;> rfl) rfl rfl rfl ?_ ?_
  · intro s a dV kV cdv doc pm an ct N vs D hN R
    have := D.dflt rfl
    subst this
    obtain ⟨u, rfl, R₁⟩ := RTs.one R
    exact BindsR.of_eq (binds := [("data", u), ("newline", .bool false)]) (by rfl) ⟨rfl, u, [.bool false], rfl, R₁, .bool false, [], rfl, rfl, rfl⟩
  · intro A L a cdv cells s N O _
    obtain ⟨t1, e1⟩ := H.b64
    refine ex_cons (st_assign O (.inl rfl) (ev_call O (H.mem (i := 3) rfl) rfl (args_cons' (ev_name O rfl) args_nil') (buffer_ok H (h := rfl))) ?_)
    refine ex_cons (st_assign O (.inl rfl) (ev_call O (H.mem (i := 4) rfl) rfl (args_cons' (ev_name O rfl) args_nil') (truth_ok H (h := rfl))) ?_)
    refine ex_cons (st_assign_new O (args_new args_nil' (by decide)) ?_)
    refine ex_cons (st_assign O (.inl rfl) ev_int ?_)
    refine ex_cons (st_assign O (.inl rfl) ev_int ?_)
    obtain ⟨tot, htot⟩ : ∃ tot, tot = (b64go (x.map UInt8.toNat) 0 0).1 := ⟨_, rfl⟩
    rw [← htot] at hs ⊢
    refine ex_cons (st_for_c (W := List Nat × Nat × Nat) O (fun w => [("out", .own (.list (intsT (sgs w.1)))), ("leftchar", .tree (.int (w.2.1 : Int))), ("leftbits", .tree (.int (w.2.2 : Int))), ("newline", .tree (.bool false))])
      (fun i w => w.2.1 < 65536 ∧ w.1 ++ (b64go ((x.map UInt8.toNat).drop i) w.2.1 w.2.2).1 = tot ∧ (b64go ((x.map UInt8.toNat).drop i) w.2.1 w.2.2).2.2 = 0 ∧ w.2.2 < 6) (.inl rfl)
      (ito_bytes (ev_name O rfl)) ([], 0, 0) ⟨by decide, htot.symm, hz, by decide⟩ (sub_cons rfl (sub_cons rfl (sub_cons rfl (sub_cons rfl sub_nil)))) ?_ ?_)
    · rintro i t ⟨out, lc, lb⟩ ht ⟨hlc, hgo, hfin, hlb⟩
      dsimp only at hlc hgo hfin hlb ⊢
      have hi : i < x.length := by
        have := (List.getElem?_eq_some_iff.mp ht).1
        simpa [intsT] using this
      have htt : t = .int (((x.map UInt8.toNat)[i]'(by simpa using hi) : Nat) : Int) := by
        simp [intsT, hi] at ht
        simpa using ht.symm
      subst htt
      have hb : (x.map UInt8.toNat)[i]'(by simpa using hi) < 256 := by
        rw [List.getElem_map]; exact UInt8.toNat_lt _
      rw [List.drop_eq_getElem_cons (by simpa using hi)] at hgo hfin
      generalize (x.map UInt8.toNat)[i]'(by simpa using hi) = b at hb hgo hfin ⊢
      simp only [b64go] at hgo hfin
      refine ex_cons (st_assign O (.inl rfl) (ev_and (ev_or (ev_lshift (ev_name O rfl) ev_int (by decide) (Int.le_trans (Int.add_le_add_right (Int.ofNat_le.mpr (intBits_le (k := 16) (by (first | lia | omega)))) _) (by decide))) (ev_name O rfl)) ev_int) ?_)
      rw [show (8 : Int).toNat = 8 from rfl, bitOr_low lc b hb, show Builtin.bitAnd ((lc * 256 + b : Nat) : Int) 65535 = (((lc * 256 + b) % 65536 : Nat) : Int) by rw [bitAnd_m16]; (first | lia | omega)]
      refine ex_cons (st_assign O (.inl rfl) (ev_add (ev_name O rfl) ev_int) ?_)
      have hlc' : (lc * 256 + b) % 65536 < 65536 := Nat.mod_lt _ (by decide)
      generalize (lc * 256 + b) % 65536 = lc' at hlc' hgo hfin ⊢
      refine ex_cons (st_while_c (W := List Nat × Nat) (fun w => [("out", .own (.list (intsT (sgs w.1)))), ("leftchar", .tree (.int (lc' : Int))), ("leftbits", .tree (.int (w.2 : Int))), ("newline", .tree (.bool false))])
        (fun n w => n = w.2 ∧ w.1 ++ (b64in lc' w.2).1 = out ++ (b64in lc' (lb + 8)).1 ∧ (b64in lc' w.2).2 = (b64in lc' (lb + 8)).2) (lb + 8) (out, lb + 8) ⟨rfl, rfl, rfl⟩ (sub_cons rfl (sub_cons rfl (sub_cons rfl (sub_cons rfl sub_nil)))) ?_)
      rintro n ⟨out', lb'⟩ ⟨hn, h1, h2⟩
      dsimp only at hn h1 h2 ⊢
      refine ⟨decide (6 ≤ (lb' : Int)), ts_cmp (ev_name O rfl) ev_int.rd cmp_ge, fun q => ?_, fun q σ' hS => ?_⟩
      · rw [decide_eq_true_eq] at q
        have q' : 6 ≤ lb' := by (first | lia | omega)
        rw [b64in, dif_pos q'] at h1 h2
        have hidx : Builtin.bitAnd ((lc' : Int).fdiv (2 ^ ((lb' : Int) - 6).toNat)) 63 = ((lc' / 2 ^ (lb' - 6) % 64 : Nat) : Int) := by
          rw [bitAnd_m6, show ((lb' : Int) - 6).toNat = lb' - 6 by (first | lia | omega)]
          rw [Int.fdiv_eq_ediv_of_nonneg _ (by exact_mod_cast Nat.zero_le _)]
          norm_cast
        have hlt : lc' / 2 ^ (lb' - 6) % 64 < 64 := Nat.mod_lt _ (by decide)
        have hlen : (out' ++ (lc' / 2 ^ (lb' - 6) % 64) :: (b64in lc' (lb' - 6)).1).length ≤ 100 := by
          rw [h1]
          have := congrArg List.length hgo
          rw [← List.append_assoc, List.length_append] at this
          (first | lia | omega)
        refine ex_cons (st_append O rfl (ev_item_bytes (l := b64L) (ev_global O ⟨_, e1, _, rfl⟩) (ev_and (ev_rshift (ev_name O rfl) (ev_sub (ev_name O rfl) ev_int) (by (first | lia | omega))) ev_int) (by rw [hidx]; (first | lia | omega)) (by rw [hidx, b64L_len]; (first | lia | omega)) (by rw [b64L_len]; decide) (fun _ _ => rfl)) (by simp [intsT, sgs]; simp at hlen; (first | lia | omega)) ?_)
        refine ex_cons (st_assign O (.inl rfl) (ev_sub (ev_name O rfl) ev_int) ?_)
        refine ex_nil ⟨lb' - 6, by (first | lia | omega), (out' ++ [lc' / 2 ^ (lb' - 6) % 64], lb' - 6), ⟨rfl, by rw [← h1]; simp, h2⟩, sub_cons ?_ (sub_cons rfl (sub_cons ?_ (sub_cons rfl sub_nil)))⟩
        · rw [hidx]
          show some (LV.own (.list (intsT (sgs out') ++ [.int ((b64L.getD (((lc' / 2 ^ (lb' - 6) % 64 : Nat) : Int)).toNat 0).toNat : Int)]))) = _
          rw [Int.toNat_natCast]
          simp [intsT, sgs, sg]
        · show some (LV.tree (.int ((lb' : Int) - 6))) = _
          rw [show ((lb' : Int) - 6) = ((lb' - 6 : Nat) : Int) by (first | lia | omega)]
      · rw [decide_eq_false_iff_not] at q
        have q' : ¬ 6 ≤ lb' := by (first | lia | omega)
        rw [b64in, dif_neg q'] at h1 h2
        dsimp only at h1 h2
        rw [List.append_nil] at h1
        rw [← h2] at hgo hfin
        refine ex_to hS (ex_nil ⟨(out', lc', lb'), ⟨hlc', ?_, hfin, by show lb' < 6; (first | lia | omega)⟩, sub_rfl⟩)
        rw [← hgo, h1, List.append_assoc]
    · rintro σ' ⟨out, lc, lb⟩ ⟨hlc, hgo, hfin, hlb⟩ hS
      rw [show (intsT (x.map fun b => (b.toNat : Int))).length = (x.map UInt8.toNat).length by simp [intsT], List.drop_of_length_le (Nat.le_refl _)] at hgo hfin
      simp only [b64go, List.append_nil] at hgo hfin
      subst hgo hfin
      refine ex_to hS ?_
      refine ex_cons (st_if (ts_cmp (ev_name O rfl) ev_int.rd cmp_eq) (fun z => by cases z) fun _ => ex_cons (st_if (ts_cmp (ev_name O rfl) ev_int.rd cmp_eq) (fun z => by cases z) fun _ => ex_nil (ex_nil ?_)))
      refine ex_cons (st_if (ts_value (ev_name O rfl).rd tr_bool) (fun z => by cases z) fun _ => ex_nil ?_)
      refine ex_freeze (x := "out") rfl ?_
      refine ex_cons (st_return (ev_call_type O (b_bytes H) (args_cons' (ev_name O rfl) args_nil') (c_bytes O.hh ?_ ?_)) ?_)
      · intro n hn
        simp only [sgs, List.mem_map] at hn
        obtain ⟨i, _, rfl⟩ := hn
        have : sg i < 256 := UInt8.toNat_lt _
        (first | lia | omega)
      · simp [sgs]; (first | lia | omega)
      · show Fl.ret _ = Fl.ret _
        rw [byteArr_sgs]
end
end TL
end
/-! ### TP4 -/
section
open PySem PyProof.Rows
namespace TL

noncomputable def lawTable (total : Int) : List Int :=
  let one := total.fmod 26
  let other := (one + 1 + (total.fdiv 26).fmod 25).fmod 26
  let sign := (total.fdiv 650).fmod 11
  let further := (sign + 1 + (total.fdiv 7150).fmod 10).fmod 11
  [one, one + 26, other, other + 26, 52 + sign, 52 + further]
noncomputable def packed : List Int → Int → Int
  | [], v => v
  | f :: fs, v => packed fs (v * 64 + f)
noncomputable def octs (v : Int) : List Int := (List.range 6).map fun (k : Nat) => (v.fdiv (256 ^ (5 - k))).fmod 256

section
variable {P : Pm} {k : Nat}
theorem np {a b : Int} (h : b.natAbs < 1073741824 := by decide) : Builtin.divisionGoesByPylong a b = false := PyProof.noPylong_small h

theorem b64encode_ok (H : PmOK P) {d : Df} (h : (defsOf pw)[6]? = some d) {x : List UInt8} (hz : (b64go (x.map UInt8.toNat) 0 0).2.2 = 0) (hs : (b64go (x.map UInt8.toNat) 0 0).1.length ≤ 100) :
    FnOK P (k + 3) d.name [.bytes x.toArray] [] (.bytes (((b64go (x.map UInt8.toNat) 0 0).1.map fun i => b64L.getD i 0).toArray)) := by
  have hm := H.mem h
  cases h
  refine fn_intro hm (names := ["s", "altchars"]) (args' := [.bytes x.toArray, .none]) (by decide) (by intro z hz; simp only [List.mem_cons, List.not_mem_nil, or_false] at hz; rcases hz with rfl | rfl <;> rfl) rfl rfl rfl ?_ ?_
  · intro s a dV kV cdv doc pm an ct N vs D hN R
    obtain ⟨T, o, n, e1, e2, e3⟩ := D.dflt1 _ _ rfl
    subst e1
    obtain ⟨u, rfl, R₁⟩ := RTs.one R
    intro M A E Q hq
    show wpAny _ _ (seqItems? (.ref T) >>= _) _ _ s
    refine wpAny_bind (wpAny_seqItems e2 e3 ?_)
    exact wpAny_pure (hq s [("s", u), ("altchars", .none)] (Kp.rfl' s) ⟨rfl, u, [.none], rfl, R₁, .none, [], rfl, rfl, rfl⟩)
  · intro A L a cdv cells s N O _
    refine ex_cons (st_assign O (.inl rfl) (ev_call_kw1 O (H.mem (i := 5) rfl) rfl (args_cons' (ev_name O rfl) args_nil') ev_bool (b2a_ok H (h := rfl) hz hs)) ?_)
    refine ex_cons (st_if (ts_cmp (ev_name O rfl) ev_none.rd cmp_isNotNN) (fun z => by cases z) fun _ => ex_nil ?_)
    exact ex_cons (st_return (ev_name O rfl) rfl)

theorem table_ok (H : PmOK P) {d : Df} (h : (defsOf pw)[14]? = some d) {x : Int} : FnOK P (k + 1) d.name [.int x] [] (.list (intsT (lawTable x))) := by
  have hm := H.mem h
  cases h
  refine fn_intro hm (names := ["total"]) (args' := [.int x]) (by decide) (by intro z hz; simp only [List.mem_cons, List.not_mem_nil, or_false] at hz; subst hz; rfl) rfl rfl rfl ?_ ?_
  · intro s a dV kV cdv doc pm an ct N vs D hN R
    have := D.dflt rfl
    subst this
    obtain ⟨u, rfl, R₁⟩ := RTs.one R
    exact BindsR.of_eq (binds := [("total", u)]) (by rfl) ⟨rfl, u, [], rfl, R₁, rfl⟩
  · intro A L a cdv cells s N O _
    refine ex_cons (st_assign O (.inl rfl) (ev_mod (ev_name O rfl) ev_int (by decide)) ?_)
    refine ex_cons (st_assign O (.inl rfl) (ev_mod (ev_add (ev_add (ev_name O rfl) ev_int) (ev_mod (ev_floordiv (ev_name O rfl) ev_int (by decide) np) ev_int (by decide))) ev_int (by decide)) ?_)
    refine ex_cons (st_assign O (.inl rfl) (ev_mod (ev_floordiv (ev_name O rfl) ev_int (by decide) np) ev_int (by decide)) ?_)
    refine ex_cons (st_assign O (.inl rfl) (ev_mod (ev_add (ev_add (ev_name O rfl) ev_int) (ev_mod (ev_floordiv (ev_name O rfl) ev_int (by decide) np) ev_int (by decide))) ev_int (by decide)) ?_)
    exact ex_cons (st_return (args_new (args_cons' (ev_name O rfl) (args_cons' (ev_add (ev_name O rfl) ev_int) (args_cons' (ev_name O rfl) (args_cons' (ev_add (ev_name O rfl) ev_int) (args_cons' (ev_add ev_int (ev_name O rfl)) (args_cons' (ev_add ev_int (ev_name O rfl)) args_nil')))))) (by show 6 ≤ sizeLine; decide)).ok rfl)

theorem octets_ok (H : PmOK P) {d : Df} (h : (defsOf pw)[15]? = some d) {x : List Int} : FnOK P (k + 1) d.name [.list (intsT x)] [] (.bytes (byteArr (octs (packed x 0)))) := by
  have hm := H.mem h
  cases h
  refine fn_intro hm (names := ["figures"]) (args' := [.list (intsT x)]) (by decide) (by intro z hz; simp only [List.mem_cons, List.not_mem_nil, or_false] at hz; subst hz; rfl) rfl rfl rfl ?_ ?_
  · intro s a dV kV cdv doc pm an ct N vs D hN R
    have := D.dflt rfl
    subst this
    obtain ⟨u, rfl, R₁⟩ := RTs.one R
    exact BindsR.of_eq (binds := [("figures", u)]) (by rfl) ⟨rfl, u, [], rfl, R₁, rfl⟩
  · intro A L a cdv cells s N O hcell
    have hv := hcell "value" rfl
    refine ex_cons (st_assign O (.inr ⟨rfl, hv⟩) ev_int ?_)
    refine ex_cons (st_for_c (W := Int) O (fun w => [("value", .tree (.int w))]) (fun i w => packed (x.drop i) w = packed x 0) (.inl rfl)
      (ito_list (ev_name O rfl)) 0 rfl (sub_cons rfl sub_nil) ?_ ?_)
    · intro i t w ht hw
      have hi : i < x.length := by simpa [intsT] using (List.getElem?_eq_some_iff.mp ht).1
      have htt : t = .int x[i] := by simp [intsT, hi] at ht; exact ht.symm
      subst htt
      rw [List.drop_eq_getElem_cons hi] at hw
      refine ex_cons (st_assign O (.inr ⟨rfl, hv⟩) (ev_add (ev_mul (ev_name O rfl) ev_int (mul_r (by decide) (by decide))) (ev_name O rfl)) ?_)
      exact ex_nil ⟨_, hw, sub_cons rfl sub_nil⟩
    · intro σ' w hw hS
      rw [show (intsT x).length = x.length by simp [intsT], List.drop_of_length_le (Nat.le_refl _)] at hw
      refine ex_to hS ?_
      have hw : w = packed x 0 := hw
      rw [← hw]
      refine ex_cons (st_return (t := .bytes (byteArr (octs w))) (ev_call_type O (b_bytes H) (args_cons' (new_comp O [("value", .tree (.int w))] (fun t => match t with | .int i => some (.int ((w.fdiv (256 ^ (5 - i).toNat)).fmod 256)) | _ => none)
        (ito_range1 (n := 6) O (b_range H) ev_int (by decide)) ⟨⟨_, rfl⟩, rfl, rfl, .inl rfl, trivial⟩ ?_ (by decide)).ok args_nil') (c_bytes (ns := octs w) O.hh ?_ ?_)) rfl)
      · intro t ht cl C s N O'
        simp only [intsT, rng, List.mem_map, List.mem_range] at ht
        obtain ⟨_, ⟨j, hj, rfl⟩, rfl⟩ := ht
        refine .inr ⟨_, rfl, tests_nil, ?_⟩
        refine ev_mod (ev_floordiv (ev_name O' rfl) (ev_pow ev_int (ev_sub ev_int (ev_name O' rfl)) (by (first | lia | omega)) ?_) ?_ ?_) ev_int (by decide)
        · rw [show Builtin.Int.intBits 256 = 9 by decide]; (first | lia | omega)
        · exact Int.ne_of_gt (Int.pow_pos (by decide))
        · refine PyProof.noPylong_of_log2 ?_
          have : ∀ j : Fin 6, ((256 : Int) ^ (5 - ((0 : Int) + ((j : Nat) : Int) * 1)).toNat).natAbs.log2 < 9000 := by decide +kernel
          exact this ⟨j, hj⟩
      · intro n hn
        simp only [octs, List.mem_map] at hn
        obtain ⟨j, _, rfl⟩ := hn
        exact ⟨Int.fmod_nonneg_of_pos _ (by decide), Int.fmod_lt_of_pos _ (by decide)⟩
      · simp only [octs, List.length_map, List.length_range]; decide
end
end TL
end
/-! ### TP5 -/
section
open PySem PyProof.Rows
namespace TL
section
variable {P : Pm} {k : Nat}

theorem join_ok (H : PmOK P) {d : Df} (h : (defsOf pw)[12]? = some d) {x : Nat} {l : List Nat} (hx : x ≠ 47) (hl : l.head? ≠ some 47) (hs : l.length ≤ 100) : FnOK P (k + 2) d.name [.str (S [x]), .str (S l)] [] (.str (S (x :: 47 :: l))) := by
  have hm := H.mem h
  have h100 : (200 : Nat) ≤ sizeLine := by decide
  cases h
  refine fn_intro hm (names := ["a", "p"]) (args' := [.str (S [x]), .tuple [.str (S l)]]) (by decide) (by intro z hz; simp only [List.mem_cons, List.not_mem_nil, or_false] at hz; rcases hz with rfl | rfl <;> rfl) rfl rfl rfl ?_ ?_
  · intro s a dV kV cdv doc pm an ct N vs D hN R
    have := D.dflt rfl
    subst this
    obtain ⟨u, v, rfl, R₁, R₂⟩ := RTs.two R
    intro M A E Q hq
    show wpAny _ _ (newTuple [v] >>= fun t => (pure [(("a" : Str), u), (("p" : Str), t)] : Sem (List (Str × Value)))) _ _ s
    refine wpAny_bind (wpAny_newTuple (wpAny_pure (hq _ _ (push_kp s _) ⟨rfl, u, [.ref s.heap.objs.size], rfl, R₁.keep fun b o e => Heap.get?_push_of_some _ e, .ref s.heap.objs.size, [], rfl, ⟨_, [v], 0, rfl, newNN hN (size_none _), Heap.get?_push_size _ rfl, v, [], rfl, R₂.keep fun b o e => Heap.get?_push_of_some _ e, rfl⟩, rfl⟩)) (by show 1 ≤ sizeLine; decide))
  · intro A L a cdv cells s N O _
    refine ex_cons (st_assign O (.inl rfl) (ev_call O (H.mem (i := 9) rfl) rfl (args_cons' (ev_name O rfl) args_nil') (fspath_ok H (h := rfl))) ?_)
    refine ex_cons (st_assign O (.inl rfl) (ev_call O (H.mem (i := 11) rfl) rfl (args_cons' (ev_name O rfl) args_nil') (get_sep_ok H (h := rfl))) ?_)
    refine ex_cons (st_assign O (.inl rfl) (ev_name O rfl) ?_)
    refine ex_cons (st_try (ex_cons (st_for_c (W := Nat) O (fun w => [("path", .tree (.str (if w = 0 then S [x] else S (x :: 47 :: l)))), ("sep", .tree (.str "/"))]) (fun i w => w = i) (.inl rfl) (ito_tuple (ev_name O rfl)) 0 rfl (sub_cons rfl (sub_cons rfl sub_nil)) ?_ ?_)))
    · rintro i t w ht rfl
      have hi : w = 0 ∧ t = .str (S l) := by
        cases w with
        | zero => simp at ht; exact ⟨rfl, ht.symm⟩
        | succ w => simp at ht
      obtain ⟨rfl, rfl⟩ := hi
      simp only [if_true]
      refine ex_cons (st_assign O (.inl rfl) (ev_call O (H.mem (i := 9) rfl) rfl (args_cons' (ev_name O rfl) args_nil') (fspath_ok H (h := rfl))) ?_)
      refine ex_cons (st_if (b := false) (ts_eq (by rw [sw_slash l hl]; rfl) (ts_bool (all_or (ts_value (ev_meth (ev_name O rfl) m_startswith (args_cons' (ev_name O rfl) args_nil') c_startswith).rd tr_bool) fun _ => all_or (ts_not (ts_value (ev_name O rfl).rd (tr_str (by show 1 < 2 ^ 62; decide)))) fun _ => all_or_nil))) (fun z => by cases z) fun _ => ?_)
      refine ex_cons (st_if (b := false) (ts_eq (ew_slash x hx) (ts_value (ev_meth (ev_name O rfl) m_endswith (args_cons' (ev_name O rfl) args_nil') c_endswith).rd tr_bool)) (fun z => by cases z) fun _ => ?_)
      refine ex_cons (st_aug O (.inl rfl) rfl (ev_cat (ev_name O rfl) (ev_name O rfl) ?_) (inp_cat ?_) ?_)
      · rw [len_S, slash_eq, len_S]; simp; (first | lia | omega)
      · rw [slash_eq, S_append, len_S, len_S]; simp; (first | lia | omega)
      · refine ex_nil (ex_nil (ex_nil ⟨1, rfl, sub_cons ?_ (sub_cons rfl sub_nil)⟩))
        show some (LV.tree (.str (S [x] ++ (("/" : Str) ++ S l)))) = _
        rw [slash_eq, S_append, S_append]; rfl
    · rintro σ' w hw hS
      have hw : w = 1 := hw
      subst hw
      exact ex_nil (ex_to hS (ex_cons (st_return (ev_name O rfl) rfl)))

noncomputable def waysOf (w : List Nat) : List (List Nat) := (List.range (w.length + 1)).map fun j => lay (w.drop j)

theorem lay_head (w : List Nat) (hw : ∀ c ∈ w, c ≠ 47) : (lay w).head? ≠ some 47 := by
  cases w with
  | nil => simp [lay]
  | cons c w => rw [lay_cons]; simp; exact hw c (by simp)

theorem ways_ok (H : PmOK P) {d : Df} (h : (defsOf pw)[16]? = some d) {w : List Nat} (hw : ∀ c ∈ w, c ≠ 47) (hs : w.length ≤ 8) : FnOK P (k + 3) d.name [.str (S w)] [] (.list (strsT (waysOf w))) := by
  have hm := H.mem h
  have h100 : (200 : Nat) ≤ sizeLine := by decide
  cases h
  refine fn_intro hm (names := ["word"]) (args' := [.str (S w)]) (by decide) (by intro z hz; simp only [List.mem_cons, List.not_mem_nil, or_false] at hz; subst hz; rfl) rfl rfl rfl ?_ ?_
  · intro s a dV kV cdv doc pm an ct N vs D hN R
    have := D.dflt rfl
    subst this
    obtain ⟨u, rfl, R₁⟩ := RTs.one R
    exact BindsR.of_eq (binds := [("word", u)]) (by rfl) ⟨rfl, u, [], rfl, R₁, rfl⟩
  · intro A L a cdv cells s N O _
    refine ex_cons (st_assign_new O (args_new (args_cons' ev_str args_nil') (by show 1 ≤ sizeLine; decide)) ?_)
    refine ex_cons (st_for_c (W := List (List Nat)) O (fun ws => [("ways", .own (.list (strsT ws)))]) (fun i ws => i ≤ w.length ∧ ws = (List.range (i + 1)).map fun j => lay (w.drop (w.length - j))) (.inl rfl)
      (ito_str (x := w.reverse) (by show EvOK _ _ _ (.str (S w.reverse)); rw [← sl_rev]; exact ev_slice_str (lo := none) (hi := none) (st := some (-1)) (ev_name O rfl) part_no part_no (part_int (ev_neg ev_int)) (by decide) (by rw [len_S]; (first | lia | omega)) (fun _ _ => ⟨_, rfl⟩))) [[]] ⟨by (first | lia | omega), ?_⟩ (sub_cons rfl sub_nil) ?_ ?_)
    · simp [lay]
    · rintro i t ws ht ⟨hi, hws⟩
      have hi' : i < w.length := by
        have := (List.getElem?_eq_some_iff.mp ht).1
        simpa [signs] using this
      have htt : t = .str (S [w[w.length - 1 - i]]) := by
        have : (signs w.reverse)[i]? = some (.str (S [w[w.length - 1 - i]])) := by
          simp only [signs, List.getElem?_map]
          rw [List.getElem?_reverse hi', List.getElem?_eq_getElem (by (first | lia | omega))]
          rfl
        rw [this] at ht; cases ht; rfl
      subst htt
      have hlen : ws.length = i + 1 := by rw [hws]; simp
      have hlast : (strsT ws)[((-1 : Int) + ((strsT ws).length : Int)).toNat]? = some (.str (S (lay (w.drop (w.length - i))))) := by
        rw [strsT_len, hlen, show ((-1 : Int) + ((i + 1 : Nat) : Int)).toNat = i by (first | lia | omega), strsT_get _ _ (by (first | lia | omega)), hws]
        simp
      refine ex_cons (st_append O rfl (ev_call O (H.mem (i := 12) rfl) rfl (args_cons' (ev_name O rfl) (args_cons' (ev_item_list_neg (rd_own O rfl) (ev_neg ev_int) (by decide) (by rw [strsT_len, hlen]; (first | lia | omega)) (by decide) hlast (fun _ _ => rfl)) args_nil')) (join_ok H (h := rfl) (hw _ (List.getElem_mem _)) (lay_head _ fun c hc => hw c (List.mem_of_mem_drop hc)) (by rw [lay_len]; simp; (first | lia | omega)))) (by rw [strsT_len, hlen]; (first | lia | omega)) ?_)
      refine ex_nil ⟨ws ++ [lay (w.drop (w.length - (i + 1)))], ⟨hi', ?_⟩, sub_cons ?_ sub_nil⟩
      · rw [hws, List.range_succ (n := i + 1), List.map_append]; rfl
      · show some (LV.own (.list (strsT ws ++ [.str (S (w[w.length - 1 - i] :: 47 :: lay (w.drop (w.length - i))))]))) = _
        have : w.drop (w.length - (i + 1)) = w[w.length - 1 - i] :: w.drop (w.length - i) := by
          rw [List.drop_eq_getElem_cons (by (first | lia | omega))]
          congr 1
          · congr 1; (first | lia | omega)
          · congr 1; (first | lia | omega)
        rw [this, lay_cons]
        simp [strsT]
    · rintro σ' ws ⟨hi, hws⟩ hS
      have e : (signs w.reverse).length = w.length := by simp [signs]
      rw [e] at hws
      refine ex_to hS ?_
      have hr : pickL (strsT ws) none none (some (-1)) = strsT (waysOf w) := by
        rw [pickL_rev]
        unfold strsT waysOf
        rw [← List.map_reverse, hws]
        congr 1
        apply List.ext_getElem
        · simp
        · intro n h1 h2
          simp at h1 h2
          simp
          congr 2; (first | lia | omega)
      refine ex_cons (st_return (t := .list (strsT (waysOf w))) (by rw [← hr]; exact (ev_slice_list (lo := none) (hi := none) (st := some (-1)) (rd_own O rfl) part_no part_no (part_int (ev_neg ev_int)) (by decide) (by rw [strsT_len, hws]; simp; (first | lia | omega)) (fun _ _ => ⟨_, rfl⟩)).ok) rfl)
end
end TL
end
/-! ### TP6 -/
section
open PySem PyProof.Rows
namespace TL

/-! signs in the order of texts -/
noncomputable def lexN : List Nat → List Nat → Bool
  | x :: xs, y :: ys => if x = y then lexN xs ys else decide (x < y)
  | [], _ :: _ => true
  | _, [] => false
noncomputable def sgl (u : List Nat) : List (List Nat) := u.map fun c => [c]
theorem ltS_one (x y : Nat) : ltS (S [x]) (S [y]) = decide (x < y) := by
  unfold ltS
  have : ((S [x]).cps.toList < (S [y]).cps.toList) ↔ x < y := by
    show ([x] < [y]) ↔ x < y
    rw [List.cons_lt_cons_iff]
    simp
  simp [this]
theorem lexL_sgl : ∀ u v : List Nat, lexL ((sgl u).map S) ((sgl v).map S) = lexN u v
  | [], [] => rfl
  | [], y :: v => rfl
  | x :: u, [] => rfl
  | x :: u, y :: v => by
    have ih := lexL_sgl u v
    show (if (S [x] == S [y]) = true then lexL ((sgl u).map S) ((sgl v).map S) else ltS (S [x]) (S [y])) = _
    simp only [lexN]
    rw [S_beq, ltS_one, ih]
    by_cases h : x = y
    · simp [h]
    · have : ([x] == [y]) = false := by simp [h]
      simp [this, h]
theorem lexN_asym : ∀ u v : List Nat, lexN u v = true → lexN v u = false
  | [], [], h => rfl
  | [], y :: v, _ => rfl
  | x :: u, [], h => by simp [lexN] at h
  | x :: u, y :: v, h => by
    simp only [lexN] at h ⊢
    by_cases e : x = y
    · subst e; simp only [if_true] at h ⊢; exact lexN_asym u v h
    · have e' : ¬ y = x := fun z => e z.symm
      simp only [e, e', if_false, decide_eq_true_eq, decide_eq_false_iff_not] at h ⊢
      (first | lia | omega)
theorem lexN_tot : ∀ u v : List Nat, lexN u v = false → lexN v u = false → u = v
  | [], [], _, _ => rfl
  | [], y :: v, h, _ => by simp [lexN] at h
  | x :: u, [], _, h => by simp [lexN] at h
  | x :: u, y :: v, h, h' => by
    simp only [lexN] at h h'
    by_cases e : x = y
    · subst e; simp only [if_true] at h h'; rw [lexN_tot u v h h']
    · have e' : ¬ y = x := fun z => e z.symm
      simp only [e, e', if_false, decide_eq_false_iff_not] at h h'
      (first | lia | omega)
theorem cpl_comm : ∀ u v : List Nat, cpl u v = cpl v u
  | [], [] => rfl
  | [], y :: v => by simp [cpl]
  | x :: u, [] => by simp [cpl]
  | x :: u, y :: v => by
    simp only [cpl]
    by_cases e : x = y
    · subst e; simp [cpl_comm u v]
    · have e' : ¬ y = x := fun z => e z.symm
      simp [e, e']
theorem cpl_take : ∀ u v : List Nat, u.take (cpl u v) = v.take (cpl u v)
  | [], v => by simp [cpl]
  | x :: u, [] => by simp [cpl]
  | x :: u, y :: v => by
    simp only [cpl]
    by_cases e : x = y
    · subst e; simp [cpl_take u v]
    · simp [e]
/-- the lesser one goes on no further than the other when both begin alike -/
theorem lex_in : ∀ (u v : List Nat) (i : Nat), lexN v u = false → i ≤ cpl u v → i < u.length → i < v.length
  | [], v, i, _, _, h => by simp at h
  | x :: u, [], i, h, _, _ => by simp [lexN] at h
  | x :: u, y :: v, 0, _, _, _ => by simp
  | x :: u, y :: v, i + 1, h, hc, hi => by
    simp only [cpl] at hc
    by_cases e : x = y
    · subst e
      simp only [if_true] at hc
      simp only [lexN, if_true] at h
      have := lex_in u v i h (by (first | lia | omega)) (by simpa using hi)
      simpa using this
    · simp [e] at hc
theorem lesser (u v : List Nat) : ∃ s t, (if lexN v u then v else u) = s ∧ (if lexN u v then v else u) = t ∧ lexN t s = false ∧ cpl s t = cpl u v ∧ s.take (cpl s t) = u.take (cpl u v) := by
  cases h : lexN u v with
  | true =>
    have h' := lexN_asym u v h
    exact ⟨u, v, by simp [h'], by simp, h', rfl, rfl⟩
  | false =>
    cases h' : lexN v u with
    | true => exact ⟨v, u, by simp, by simp, h, cpl_comm v u, by rw [cpl_comm v u]; exact (cpl_take u v).symm⟩
    | false =>
      have := lexN_tot u v h h'
      subst this
      exact ⟨u, u, by simp, by simp, h, rfl, rfl⟩

/-! what the paths come apart into -/
theorem splitN_lay : ∀ u : List Nat, (∀ c ∈ u, c ≠ 47) → splitN 47 (lay u) = sgl u ++ [[]]
  | [], _ => rfl
  | c :: u, h => by
    have hc := h c (by simp)
    rw [lay_cons, show c :: 47 :: lay u = [c] ++ 47 :: lay u from rfl, splitN_cut 47 (lay u) [c] (by simp; exact fun z => hc z.symm), splitN_lay u fun x hx => h x (by simp [hx])]
    rfl
noncomputable def dotted (u : List Nat) : List Nat := 46 :: 47 :: 47 :: lay u
theorem splitN_dotted (u : List Nat) (h : ∀ c ∈ u, c ≠ 47) : splitN 47 (dotted u) = [46] :: [] :: (sgl u ++ [[]]) := by
  unfold dotted
  rw [show (46 :: 47 :: 47 :: lay u) = [46] ++ 47 :: (47 :: lay u) from rfl, splitN_cut 47 _ [46] (by simp), show (47 :: lay u) = [] ++ 47 :: lay u from rfl, splitN_cut 47 _ [] (by simp), splitN_lay u h]
noncomputable def keepT : Tr → Option Tr
  | .str x => if x.length != 0 && x != S [46] then some (.str x) else none
  | _ => none
theorem keep_sgl (u : List Nat) (h : ∀ c ∈ u, c ≠ 46) : (strsT (sgl u ++ [[]])).filterMap keepT = strsT (sgl u) := by
  induction u with
  | nil => rfl
  | cons c u ih =>
    have hc := h c (by simp)
    have := ih fun x hx => h x (by simp [hx])
    simp only [sgl, strsT, List.map_cons, List.cons_append, List.filterMap_cons] at this ⊢
    have hk : keepT (.str (S [c])) = some (.str (S [c])) := by
      show (if ((S [c]).length != 0 && S [c] != S [46]) = true then some (Tr.str (S [c])) else none) = _
      rw [if_pos]
      have : (S [c] != S [46]) = true := by simp [hc]
      rw [this]; rfl
    rw [hk]
    simp only [this]
theorem keep_dotted (u : List Nat) (h : ∀ c ∈ u, c ≠ 46) : (strsT ([46] :: [] :: (sgl u ++ [[]]))).filterMap keepT = strsT (sgl u) := by
  have h1 : keepT (.str (S [46])) = none := by
    show (if ((S [46]).length != 0 && S [46] != S [46]) = true then some (Tr.str (S [46])) else none) = none
    rw [if_neg (by simp)]
  have h2 : keepT (.str (S [])) = none := by
    show (if ((S []).length != 0 && S [] != S [46]) = true then some (Tr.str (S [])) else none) = none
    rw [if_neg (by simp [Str.length])]
  have : strsT ([46] :: [] :: (sgl u ++ [[]])) = .str (S [46]) :: .str (S []) :: strsT (sgl u ++ [[]]) := rfl
  rw [this, List.filterMap_cons, h1, List.filterMap_cons, h2]
  exact keep_sgl u h
theorem strsT_map (l : List (List Nat)) : strsT l = (l.map S).map Tr.str := by simp [strsT]
end TL
end
/-! ### TP7 -/
section
open PySem PyProof.Rows
namespace TL
section
variable {c : Cx} {σ : Sg} {P : Pm} {k : Nat}
theorem ev_slash {k' : Nat} {pos : Pos} : EvOK c σ (.Constant (.str "/") k' pos) (.str (S [47])) := slash_eq ▸ ev_str
theorem ev_beq {e : Expr} {b b' : Bool} (q : b = b') (H : EvOK c σ e (.bool b)) : EvOK c σ e (.bool b') := q ▸ H
theorem ev_seq {e : Expr} {a b : Str} (q : a = b) (H : EvOK c σ e (.str a)) : EvOK c σ e (.str b) := q ▸ H
theorem sgl_sum : ∀ l : List Nat, ((sgl l).map (·.length)).sum = l.length
  | [] => rfl
  | x :: l => by have := sgl_sum l; simp [sgl] at this ⊢; (first | lia | omega)
theorem dot_eq : ("." : Str) = S [46] := by decide +kernel
theorem ev_dot {k' : Nat} {pos : Pos} : EvOK c σ (.Constant (.str ".") k' pos) (.str (S [46])) := dot_eq ▸ ev_str
theorem c_splitS {l : List Nat} (hs : l.length ≤ 100) : CallNew c (.builtin "str.split") [.str (S l), .str (S [47])] (.list (strsT (splitN 47 l))) := slash_eq ▸ c_split hs
theorem c_joinS {ps : List (List Nat)} (hs : (ps.map (·.length)).sum + ps.length ≤ 1000) : CallOK c (.builtin "str.join") [.str (S [47]), .list (strsT ps)] (.str (S (joinN 47 ps))) := slash_eq ▸ c_join hs
theorem sw_slashS (l : List Nat) (h : l.head? ≠ some 47) : Txt.startswith (S l) (S [47]) = false := slash_eq ▸ sw_slash l h

theorem commonpath_ok (H : PmOK P) {d : Df} (h : (defsOf pw)[13]? = some d) {u v : List Nat} (hu : ∀ c ∈ u, c ≠ 47 ∧ c ≠ 46) (hv : ∀ c ∈ v, c ≠ 47 ∧ c ≠ 46) (hul : u.length ≤ 8) (hvl : v.length ≤ 8) :
    FnOK P (k + 3) d.name [.list [.str (S (dotted u)), .str (S (lay v))]] [] (.str (S (joinN 47 (sgl (u.take (cpl u v)))))) := by
  have hm := H.mem h
  have h100 : (200 : Nat) ≤ sizeLine := by decide
  have hdl : (dotted u).length ≤ 100 := by unfold dotted; simp [lay_len]; (first | lia | omega)
  have hll : (lay v).length ≤ 100 := by rw [lay_len]; (first | lia | omega)
  have hdh : (dotted u).head? ≠ some 47 := by unfold dotted; simp
  have hlh : (lay v).head? ≠ some 47 := lay_head v fun c hc => (hv c hc).1
  obtain ⟨df, hdf⟩ : ∃ df, (defsOf pw)[9]? = some df := ⟨_, rfl⟩
  have hfm := H.mem hdf
  have hfn : df.name = "fspath" := by cases hdf; rfl
  cases h
  refine fn_intro hm (names := ["paths"]) (args' := [.list [.str (S (dotted u)), .str (S (lay v))]]) (by decide) (by intro z hz; simp only [List.mem_cons, List.not_mem_nil, or_false] at hz; subst hz; rfl) rfl rfl rfl ?_ ?_
  · intro s a dV kV cdv doc pm an ct N vs D hN R
    have := D.dflt rfl
    subst this
    obtain ⟨u, rfl, R₁⟩ := RTs.one R
    exact BindsR.of_eq (binds := [("paths", u)]) (by rfl) ⟨rfl, u, [], rfl, R₁, rfl⟩
  · intro A L a cdv cells s N O hcell
    have hsep := hcell "sep" rfl
    have hcur := hcell "curdir" rfl
    refine ex_cons (st_assign O (t := .tuple [.str (S (dotted u)), .str (S (lay v))]) (.inl rfl) ?_ ?_)
    · exact ev_tuple_map' O [S (dotted u), S (lay v)] hfm hfn (fun x _ => fspath_ok H hdf) (b_tuple H) (b_map H) (ev_name O rfl) (by show 2 ≤ sizeLine; decide)
    refine ex_cons (st_if (ts_not (ts_value (ev_name O rfl).rd (tr_tuple (by show 2 < 2 ^ 62; decide)))) (fun z => by cases z) fun _ => ex_nil ?_)
    refine ex_to (σ₀ := [("paths", .tree (.tuple [.str (S (dotted u)), .str (S (lay v))]))]) (sub_cons rfl sub_nil) ?_
    refine ex_cons (st_if (b := false) (ts_value (a := .bool false) (EvOK.rd ?_) tr_bool) (fun z => by cases z) fun _ => ?_)
    · refine ev_call_builtin O (b_isinstance H) (args_cons' (t := .str (S (dotted u))) ?_ (args_cons' (ev_type O (H.blt _ (by decide)) rfl) args_nil')) c_isi_str_bytes
      exact ev_item_tuple (ev_name O rfl) ev_int (by decide) (by decide) rfl (fun _ _ => rfl)
    refine ex_cons (st_assign O (.inr ⟨rfl, hsep⟩) ev_slash ?_)
    refine ex_cons (st_assign O (.inr ⟨rfl, hcur⟩) ev_dot (ex_nil ?_))
    refine ex_cons (st_try ?_)
    -- both paths come apart
    refine ex_cons (st_assign_comp O [("sep", .tree (.str (S [47])))] (fun t => match t with | .str x => some (.list (strsT (splitN 47 x.cps.toList))) | _ => none) (ito_tuple (ev_name O rfl)) ⟨⟨_, rfl⟩, rfl, rfl, .inl rfl, trivial⟩ ?_ (by show 2 ≤ sizeLine; decide) ?_)
    · intro t ht cl C s N O'
      have ht : t = .str (S (dotted u)) ∨ t = .str (S (lay v)) := by simpa using ht
      rcases ht with rfl | rfl
      · exact .inr ⟨.list (strsT (splitN 47 (dotted u))), rfl, tests_nil, (new_meth (ev_name O' rfl) m_split (args_cons' (ev_name O' rfl) args_nil') (c_splitS hdl)).ok⟩
      · exact .inr ⟨.list (strsT (splitN 47 (lay v))), rfl, tests_nil, (new_meth (ev_name O' rfl) m_split (args_cons' (ev_name O' rfl) args_nil') (c_splitS hll)).ok⟩
    have e1 : splitN 47 (dotted u) = [46] :: [] :: (sgl u ++ [[]]) := splitN_dotted u fun c hc => (hu c hc).1
    have e2 : splitN 47 (lay v) = sgl v ++ [[]] := splitN_lay v fun c hc => (hv c hc).1
    refine ex_freeze (x := "split_paths") (t := .list [.list (strsT (splitN 47 (dotted u))), .list (strsT (splitN 47 (lay v)))]) rfl ?_
    refine ex_to (σ₀ := [("split_paths", .tree (.list [.list (strsT (splitN 47 (dotted u))), .list (strsT (splitN 47 (lay v)))])), ("paths", .tree (.tuple [.str (S (dotted u)), .str (S (lay v))])), ("sep", .tree (.str (S [47]))), ("curdir", .tree (.str (S [46])))]) (sub_cons rfl (sub_cons rfl (sub_cons rfl (sub_cons rfl sub_nil)))) ?_
    rw [e1, e2]
    -- absolute or not
    refine ex_cons (st_try (ex_cons (st_unpack1 O (.inl rfl) (up_set O [("sep", .tree (.str (S [47])))] (ito_tuple (ev_name O rfl)) ⟨⟨_, rfl⟩, rfl, rfl, .inl rfl, trivial⟩ ?_ (by show 0 < 2; decide)) (ex_nil ?_))))
    · intro t ht cl C s N O'
      have ht : t = .str (S (dotted u)) ∨ t = .str (S (lay v)) := by simpa using ht
      rcases ht with rfl | rfl
      · refine .inr ⟨.bool false, rfl, tests_nil, ?_⟩
        exact ev_beq (sw_slashS _ hdh) (ev_meth (ev_name O' rfl) m_startswith (args_cons' (ev_name O' rfl) args_nil') c_startswith)
      · refine .inr ⟨.bool false, rfl, tests_nil, ?_⟩
        exact ev_beq (sw_slashS _ hlh) (ev_meth (ev_name O' rfl) m_startswith (args_cons' (ev_name O' rfl) args_nil') c_startswith)
    -- lone dots and empty pieces fall away
    refine ex_cons (st_assign_comp O [("curdir", .tree (.str (S [46])))] (fun t => match t with | .list ts => some (.list (ts.filterMap keepT)) | _ => none) (ito_list (ev_name O rfl)) ⟨⟨_, rfl⟩, rfl, rfl, .inl rfl, trivial⟩ ?_ (by show 2 ≤ sizeLine; decide) ?_)
    · intro t ht cl C s N O'
      have ht : ∃ l : List (List Nat), t = .list (strsT l) ∧ l.length ≤ 20 ∧ ∀ x ∈ l, x.length ≤ 1 := by
        have ht : t = .list (strsT ([46] :: [] :: (sgl u ++ [[]]))) ∨ t = .list (strsT (sgl v ++ [[]])) := by simpa using ht
        rcases ht with rfl | rfl
        · refine ⟨_, rfl, by simp [sgl]; (first | lia | omega), fun x hx => ?_⟩
          simp only [sgl, List.mem_cons, List.mem_append, List.mem_map, List.not_mem_nil, or_false] at hx
          rcases hx with rfl | rfl | ⟨y, _, rfl⟩ | rfl <;> simp
        · refine ⟨_, rfl, by simp [sgl]; (first | lia | omega), fun x hx => ?_⟩
          simp only [sgl, List.mem_cons, List.mem_append, List.mem_map, List.not_mem_nil, or_false] at hx
          rcases hx with ⟨y, _, rfl⟩ | rfl <;> simp
      obtain ⟨l, rfl, hl, hl1⟩ := ht
      refine .inr ⟨.list ((strsT l).filterMap keepT), rfl, tests_nil, ?_⟩
      refine (new_comp O' [("curdir", .tree (.str (S [46])))] keepT (ito_list (ev_name O' rfl)) ⟨⟨_, rfl⟩, rfl, rfl, .inl rfl, trivial⟩ ?_ (by rw [strsT_len]; (first | lia | omega))).ok
      intro t ht cl' C' s' N' O''
      simp only [strsT, List.mem_map] at ht
      obtain ⟨x, hx, rfl⟩ := ht
      have hx1 := hl1 x hx
      cases hb : ((S x).length != 0 && S x != S [46]) with
      | true =>
        refine .inr ⟨.str (S x), if_pos hb, tests_one (ts_eq ?_ (ts_bool (all_and (ts_value (ev_name O'' rfl).rd (tr_str (by rw [len_S]; (first | lia | omega)))) fun _ => all_and (ts_cmp (ev_name O'' rfl) (ev_name O'' rfl).rd cmp_nes) fun _ => all_and_nil))), ev_name O'' rfl⟩
        rw [Bool.and_true]; exact hb
      | false =>
        refine .inl ⟨if_neg (by rw [hb]; decide), tests_one (ts_eq ?_ (ts_bool (all_and (ts_value (ev_name O'' rfl).rd (tr_str (by rw [len_S]; (first | lia | omega)))) fun _ => all_and (ts_cmp (ev_name O'' rfl) (ev_name O'' rfl).rd cmp_nes) fun _ => all_and_nil)))⟩
        rw [Bool.and_true]; exact hb
    refine ex_freeze (x := "split_paths") (t := .list [.list ((strsT ([46] :: [] :: (sgl u ++ [[]]))).filterMap keepT), .list ((strsT (sgl v ++ [[]])).filterMap keepT)]) rfl ?_
    rw [keep_dotted u fun c hc => (hu c hc).2, keep_sgl v fun c hc => (hv c hc).2, strsT_map (sgl u), strsT_map (sgl v)]
    obtain ⟨w1, w2, hw1, hw2, hlex, hcpl, htake⟩ := lesser u v
    have hw1l : w1.length ≤ 8 := by rw [← hw1]; split <;> assumption
    have hw2l : w2.length ≤ 8 := by rw [← hw2]; split <;> assumption
    have hmin : (if lexL ((sgl v).map S) ((sgl u).map S) then (sgl v).map S else (sgl u).map S) = (sgl w1).map S := by
      rw [lexL_sgl, ← hw1]; split <;> rfl
    have hmax : (if lexL ((sgl u).map S) ((sgl v).map S) then (sgl v).map S else (sgl u).map S) = (sgl w2).map S := by
      rw [lexL_sgl, ← hw2]; split <;> rfl
    refine ex_cons (st_assign O (t := .list (strsT (sgl w1))) (.inl rfl) ?_ ?_)
    · rw [strsT_map (sgl w1), ← hmin]
      exact ev_call_builtin O (b_min H) (args_cons' (ev_name O rfl) args_nil') (c_min_lists O)
    refine ex_cons (st_assign O (t := .list (strsT (sgl w2))) (.inl rfl) ?_ ?_)
    · rw [strsT_map (sgl w2), ← hmax]
      exact ev_call_builtin O (b_max H) (args_cons' (ev_name O rfl) args_nil') (c_max_lists O)
    rw [← htake]
    refine ex_cons (st_assign O (.inl rfl) (ev_name O rfl) ?_)
    refine ex_to (σ₀ := [("common", .tree (.list (strsT (sgl w1)))), ("s1", .tree (.list (strsT (sgl w1)))), ("s2", .tree (.list (strsT (sgl w2)))), ("isabs", .tree (.bool false)), ("sep", .tree (.str (S [47])))]) (sub_cons rfl (sub_cons rfl (sub_cons rfl (sub_cons rfl (sub_cons rfl sub_nil))))) ?_
    have hcl := cpl_le w1 w2
    refine ex_cons (StOK.mono (Φ := fun f => match f with
      | .next σ' => Sub [("common", .tree (.list (strsT (sgl (w1.take (cpl w1 w2)))))), ("isabs", .tree (.bool false)), ("sep", .tree (.str (S [47])))] σ'
      | _ => False) ?_ ?_)
    · refine st_for_enum O (b_enumerate H) (ev_name O rfl) (fun i σ' => i ≤ cpl w1 w2 ∧ Sub [("common", .tree (.list (strsT (sgl w1)))), ("s1", .tree (.list (strsT (sgl w1)))), ("s2", .tree (.list (strsT (sgl w2)))), ("isabs", .tree (.bool false)), ("sep", .tree (.str (S [47])))] σ') (.inl rfl) (.inl rfl) ⟨Nat.zero_le _, sub_rfl⟩ ?_ ?_
      · rintro i t σ' ht ⟨hi, hS⟩
        have hiw : i < w1.length := by
          have := (List.getElem?_eq_some_iff.mp ht).1
          simpa [strsT, sgl] using this
        have hiw2 := lex_in w1 w2 i hlex hi hiw
        have hmore := cpl_more w1 w2 i hi
        have htt : t = .str (S [w1.getD i 0]) := by
          simp [strsT, sgl, hiw] at ht
          rw [← ht, List.getD_eq_getElem?_getD, List.getElem?_eq_getElem hiw]; rfl
        subst htt
        refine ex_to (sub_mono (sub_mono hS)) ?_
        have h2 : (strsT (sgl w2))[((i : Int)).toNat]? = some (.str (S [w2.getD i 0])) := by
          rw [Int.toNat_natCast, List.getD_eq_getElem?_getD, List.getElem?_eq_getElem hiw2]
          simp [strsT, sgl, hiw2]
        refine ex_cons (st_if (ts_cmp (ev_name O rfl) (ev_item_list (ev_name O rfl).rd (ev_name O rfl) (by (first | lia | omega)) (by (first | lia | omega)) h2 (fun _ _ => rfl)).rd cmp_nes) (fun q => ?_) fun q => ex_nil (ex_nil ⟨?_, ?_⟩))
        · have hne : w1.getD i 0 ≠ w2.getD i 0 := fun z => by rw [z] at q; simp at q
          have hic : i = cpl w1 w2 := by
            rcases Nat.lt_or_ge i (cpl w1 w2) with z | z
            · exact absurd (hmore.mpr z).2.2 hne
            · (first | lia | omega)
          refine ex_cons (st_assign O (t := .list (strsT (sgl (w1.take (cpl w1 w2))))) (.inl rfl) ?_ ?_)
          · have : strsT (sgl (w1.take (cpl w1 w2))) = pickL (strsT (sgl w1)) none (some (i : Int)) none := by
              rw [pickL_upto, hic]; simp [strsT, sgl]
            rw [this]
            exact (ev_slice_list (lo := none) (hi := some (i : Int)) (st := none) (ev_name O rfl).rd part_no (part_int (ev_name O rfl)) part_no (by decide) (by simp [strsT, sgl]; (first | lia | omega)) (fun _ _ => ⟨_, rfl⟩)).ok
          · exact ex_cons (st_break (sub_cons rfl (sub_cons rfl (sub_cons rfl sub_nil))))
        · have heq : w1.getD i 0 = w2.getD i 0 := by
            by_cases z : w1.getD i 0 = w2.getD i 0
            · exact z
            · have : (S [w1.getD i 0] != S [w2.getD i 0]) = true := by
                show (!(S [w1.getD i 0] == S [w2.getD i 0])) = true
                rw [S_beq]; simp only [List.cons_beq_cons, Bool.and_true, Bool.not_eq_true', beq_eq_false_iff_ne, ne_eq, z, not_false_eq_true, List.nil_beq_eq, List.isEmpty_nil]
              rw [this] at q; cases q
          exact hmore.mp ⟨hiw, hiw2, heq⟩
        · exact sub_cons rfl (sub_cons rfl (sub_cons rfl (sub_cons rfl (sub_cons rfl sub_nil))))
      · rintro σ' ⟨hi, hS⟩
        have hi : w1.length ≤ cpl w1 w2 := by simpa [strsT, sgl] using hi
        rw [List.take_of_length_le hi]
        exact sub_trans (sub_cons rfl (sub_cons rfl (sub_cons rfl sub_nil))) hS
    rintro f hf
    cases f with
    | next σ' =>
      refine ex_to hf ?_
      clear hf
      have hz : strSl (S [47]) none (some ((0 : Nat) : Int)) none = S [] := sl_upto [47] 0
      refine ex_cons (st_assign O (t := .str (S [])) (.inl rfl) ?_ ?_)
      · refine ev_ifexp (t := false) (ts_value (ev_name O rfl).rd tr_bool) (fun z => by cases z) fun _ => ?_
        rw [← hz]
        exact ev_slice_str (lo := none) (hi := some ((0 : Nat) : Int)) (st := none) (ev_name O rfl) part_no (part_int ev_int) part_no (by decide) (by rw [len_S]; simp; (first | lia | omega)) (fun _ _ => ⟨_, rfl⟩)
      · refine ex_cons (st_return (t := .str (S (joinN 47 (sgl (w1.take (cpl w1 w2)))))) ?_ rfl)
        have hsum : ((sgl (w1.take (cpl w1 w2))).map (·.length)).sum + (sgl (w1.take (cpl w1 w2))).length ≤ 100 := by
          rw [sgl_sum]; simp [sgl]; (first | lia | omega)
        have hjl := joinN_len 47 (sgl (w1.take (cpl w1 w2)))
        refine ev_seq (a := S [] ++ S (joinN 47 (sgl (w1.take (cpl w1 w2))))) (by rw [S_append]; rfl) ?_
        exact ev_cat (ev_name O rfl) (ev_meth (ev_name O rfl) m_join (args_cons' (ev_name O rfl) args_nil') (c_joinS (by (first | lia | omega)))) (by rw [len_S, len_S]; simp; (first | lia | omega))
    | _ => exact hf.elim
end
end TL
end
/-! ### TP8 -/
section
open PySem PyProof.Rows
namespace TL

/-! the rounds, in plain terms -/
noncomputable abbrev Asc := List (Int × Int)
noncomputable def ag : Asc → Int → Option Int
  | [], _ => none
  | p :: L, d => if p.1 = d then some p.2 else ag L d
noncomputable def ak (L : Asc) : List Int := L.map (·.1)
noncomputable def av (L : Asc) : List Tr := L.map fun p => .int p.2
noncomputable abbrev dT (L : Asc) : Tr := .dict (ak L) (av L)
theorem dget_asc : ∀ (L : Asc) (d : Int), dget (ak L) (av L) d = (ag L d).map .int
  | [], _ => rfl
  | p :: L, d => by
    show (if p.1 = d then some (Tr.int p.2) else dget (ak L) (av L) d) = Option.map Tr.int (if p.1 = d then some p.2 else ag L d)
    split
    · rfl
    · exact dget_asc L d
theorem ag_none : ∀ {L : Asc} {d : Int}, ag L d = none ↔ d ∉ ak L
  | [], d => by simp [ag, ak]
  | q :: L, d => by
    have ih := ag_none (L := L) (d := d)
    unfold ag
    unfold ak at ih ⊢
    by_cases h : q.1 = d
    · simp [h]
    · rw [if_neg h, ih, List.map_cons, List.mem_cons]
      simp [Ne.symm h]
theorem ag_some {L : Asc} {d : Int} (h : d ∈ ak L) : ∃ p, ag L d = some p := by
  cases e : ag L d with
  | none => exact absurd h (ag_none.mp e)
  | some p => exact ⟨p, rfl⟩

noncomputable def cs (a b : Int) : Bool := decide (max a b < 52) && (max a b - min a b == 26)
noncomputable def hot (x y : List Int) (m n : Nat) (d p : Int) : Bool := decide (p < m) && decide (p + d < n) && cs (x.getD p.toNat 0) (y.getD (p + d).toNat 0)
noncomputable def sp0 (x y : List Int) (m n : Nat) (bf : Asc) (d : Int) : List Int := match ag bf d with
  | none => [0]
  | some p => if hot x y m n d p then [0, p, p + 1] else [0, p]
noncomputable def sp1 (el : Asc) (d : Int) (l : List Int) : List Int := match ag el d with | none => l | some e => l ++ [e + 1]
noncomputable def sp2 (el : Asc) (d : Int) (l : List Int) : List Int := match ag el (d - 1) with | none => l | some e => l ++ [e]
noncomputable def sp3 (el : Asc) (d : Int) (l : List Int) : List Int := match ag el (d + 1) with | none => l | some e => l ++ [e + 1]
noncomputable def spots (x y : List Int) (m n : Nat) (bf el : Asc) (d : Int) : List Int := sp3 el d (sp2 el d (sp1 el d (sp0 x y m n bf d)))
noncomputable def lmax (l : List Int) : Int := l.foldl max 0
noncomputable def pl0 (x y : List Int) (m n : Nat) (bf el : Asc) (d : Int) : Int := min (min (lmax (spots x y m n bf el d)) m) (n - d)
noncomputable def anew (bf : Asc) (d p : Int) : Bool := match ag bf d with | none => true | some q => decide (q < p)
noncomputable def plc (u v : List Nat) (x y : List Int) (bf el : Asc) (d : Int) : Int :=
  let p := pl0 x y u.length v.length bf el d
  if anew bf d p then p + cpl (u.drop p.toNat) (v.drop (p + d).toNat) else p
noncomputable def loD (m : Nat) (price : Nat) : Int := max (-(m : Int)) (-((price / 2 : Nat) : Int))
noncomputable def hiD (n : Nat) (price : Nat) : Int := min (n : Int) ((price / 2 : Nat) : Int) + 1
noncomputable def diags (m n price : Nat) : List Int := (List.range (hiD n price - loD m price).toNat).map fun (j : Nat) => loD m price + (j : Int)
noncomputable def roundOf (u v : List Nat) (x y : List Int) (bf el : Asc) (price : Nat) : Asc := (diags u.length v.length price).map fun d => (d, plc u v x y bf el d)
noncomputable def nowOf (u v : List Nat) (x y : List Int) : Nat → Asc
  | 0 => roundOf u v x y [] [] 0
  | 1 => roundOf u v x y (nowOf u v x y 0) [] 1
  | p + 2 => roundOf u v x y (nowOf u v x y (p + 1)) (nowOf u v x y p) (p + 2)
noncomputable def bfOf (u v : List Nat) (x y : List Int) (p : Nat) : Asc := if 0 < p then nowOf u v x y (p - 1) else []
noncomputable def elOf (u v : List Nat) (x y : List Int) (p : Nat) : Asc := if 1 < p then nowOf u v x y (p - 2) else []
theorem nowOf_eq (u v : List Nat) (x y : List Int) : ∀ p, nowOf u v x y p = roundOf u v x y (bfOf u v x y p) (elOf u v x y p) p
  | 0 => rfl
  | 1 => rfl
  | p + 2 => rfl

theorem lmax_mem : ∀ (l : List Int) (a : Int), l.foldl max a ∈ a :: l
  | [], a => by simp
  | b :: l, a => by
    have := lmax_mem l (max a b)
    show List.foldl max (max a b) l ∈ _
    rcases List.mem_cons.mp this with h | h
    · rw [h]; rcases Int.le_total a b with q | q
      · rw [Int.max_eq_right q]; simp
      · rw [Int.max_eq_left q]; simp
    · exact List.mem_cons_of_mem _ (List.mem_cons_of_mem _ h)
theorem lmax_le : ∀ (l : List Int) (a : Int), a ≤ l.foldl max a ∧ ∀ b ∈ l, b ≤ l.foldl max a
  | [], a => by simp
  | b :: l, a => by
    have ⟨h1, h2⟩ := lmax_le l (max a b)
    show a ≤ List.foldl max (max a b) l ∧ ∀ z ∈ b :: l, z ≤ List.foldl max (max a b) l
    refine ⟨by omega, fun z hz => ?_⟩
    rcases List.mem_cons.mp hz with rfl | hz
    · omega
    · exact h2 z hz
theorem sp0_zero (x y : List Int) (m n : Nat) (bf : Asc) (d : Int) : 0 ∈ sp0 x y m n bf d := by
  unfold sp0; split
  · simp
  · split <;> simp
theorem spots_sub (x y : List Int) (m n : Nat) (bf el : Asc) (d : Int) : ∀ z ∈ sp0 x y m n bf d, z ∈ spots x y m n bf el d := by
  intro z hz
  unfold spots sp3 sp2 sp1
  split <;> split <;> split <;> simp [hz]
theorem spots_zero (x y : List Int) (m n : Nat) (bf el : Asc) (d : Int) : 0 ∈ spots x y m n bf el d := spots_sub _ _ _ _ _ _ _ _ (sp0_zero ..)
theorem lmax_spots (x y : List Int) (m n : Nat) (bf el : Asc) (d : Int) : lmax (spots x y m n bf el d) ∈ spots x y m n bf el d ∧ ∀ z ∈ spots x y m n bf el d, z ≤ lmax (spots x y m n bf el d) := by
  refine ⟨?_, (lmax_le _ 0).2⟩
  rcases List.mem_cons.mp (lmax_mem (spots x y m n bf el d) 0) with h | h
  · unfold lmax; rw [h]; exact spots_zero ..
  · exact h
theorem spots_el (x y : List Int) (m n : Nat) (bf el : Asc) (d e : Int) (h : ag el (d + 1) = some e) : e + 1 ∈ spots x y m n bf el d := by
  unfold spots sp3; rw [h]; simp

theorem diags_mem {m n price : Nat} {d : Int} : d ∈ diags m n price ↔ loD m price ≤ d ∧ d < hiD n price := by
  unfold diags
  simp only [List.mem_map, List.mem_range]
  constructor
  · rintro ⟨j, h, rfl⟩; omega
  · rintro ⟨h1, h2⟩; exact ⟨(d - loD m price).toNat, by omega, by omega⟩
theorem diags_iff {m n price : Nat} {d : Int} : d ∈ diags m n price ↔ (-(m : Int) ≤ d ∧ -((price / 2 : Nat) : Int) ≤ d) ∧ d ≤ n ∧ d ≤ ((price / 2 : Nat) : Int) := by
  rw [diags_mem]
  exact and_congr Int.max_le (Int.lt_add_one_iff.trans Int.le_min)
theorem lo_bd {m : Nat} (price : Nat) (h : m ≤ 8) : -8 ≤ loD m price ∧ loD m price ≤ 0 :=
  ⟨Int.le_trans (Int.neg_le_neg (Int.ofNat_le.mpr h)) (Int.le_max_left _ _), Int.max_le.mpr ⟨by lia, by lia⟩⟩
theorem hi_bd {n : Nat} (price : Nat) (h : n ≤ 8) : 1 ≤ hiD n price ∧ hiD n price ≤ 9 :=
  ⟨Int.add_le_add_right (Int.le_min.mpr ⟨Int.natCast_nonneg _, Int.natCast_nonneg _⟩) 1, Int.add_le_add_right (Int.le_trans (Int.min_le_left _ _) (Int.ofNat_le.mpr h)) 1⟩
theorem ak_round (u v : List Nat) (x y : List Int) (bf el : Asc) (price : Nat) : ak (roundOf u v x y bf el price) = diags u.length v.length price := by
  unfold ak roundOf; rw [List.map_map]; simp [Function.comp_def]
theorem ak_now (u v : List Nat) (x y : List Int) (p : Nat) : ak (nowOf u v x y p) = diags u.length v.length p := by rw [nowOf_eq, ak_round]
theorem ag_map {f : Int → Int} : ∀ {l : List Int} {d : Int}, d ∈ l → ag (l.map fun d => (d, f d)) d = some (f d)
  | a :: l, d, h => by
    show (if a = d then some (f a) else ag (l.map fun d => (d, f d)) d) = _
    split
    · rename_i e; rw [e]
    · rename_i e
      rcases List.mem_cons.mp h with h | h
      · exact absurd h.symm e
      · exact ag_map h
theorem ag_now (u v : List Nat) (x y : List Int) (p : Nat) {d : Int} (h : d ∈ diags u.length v.length p) : ag (nowOf u v x y p) d = some (plc u v x y (bfOf u v x y p) (elOf u v x y p) d) := by
  rw [nowOf_eq]; exact ag_map h

theorem plc_ge (u v : List Nat) (x y : List Int) (bf el : Asc) (d : Int) : pl0 x y u.length v.length bf el d ≤ plc u v x y bf el d := by
  unfold plc; dsimp only; split <;> omega
theorem pl0_le (x y : List Int) (m n : Nat) (bf el : Asc) (d : Int) : pl0 x y m n bf el d ≤ m ∧ pl0 x y m n bf el d ≤ n - d := by
  unfold pl0; omega
theorem plc_le (u v : List Nat) (x y : List Int) (bf el : Asc) (d : Int) (h0 : 0 ≤ pl0 x y u.length v.length bf el d) (h1 : 0 ≤ pl0 x y u.length v.length bf el d + d) : plc u v x y bf el d ≤ u.length ∧ plc u v x y bf el d ≤ v.length - d := by
  have h2 := pl0_le x y u.length v.length bf el d
  unfold plc
  generalize pl0 x y u.length v.length bf el d = p at *
  dsimp only
  split
  · have := cpl_le (u.drop p.toNat) (v.drop (p + d).toNat)
    rw [List.length_drop, List.length_drop] at this
    omega
  · omega
theorem pl0_ge {x y : List Int} {m n : Nat} {bf el : Asc} {d : Int} (h0 : 0 ≤ lmax (spots x y m n bf el d)) (h1 : -d ≤ lmax (spots x y m n bf el d)) (hm : -(m : Int) ≤ d) (hn : d ≤ n) : 0 ≤ pl0 x y m n bf el d ∧ 0 ≤ pl0 x y m n bf el d + d :=
  ⟨Int.le_min.mpr ⟨Int.le_min.mpr ⟨h0, Int.natCast_nonneg _⟩, by lia⟩, by
    have : -d ≤ pl0 x y m n bf el d := Int.le_min.mpr ⟨Int.le_min.mpr ⟨h1, by lia⟩, by lia⟩
    lia⟩
theorem pl0_low (u v : List Nat) (x y : List Int) : ∀ (p : Nat) (d : Int), d ∈ diags u.length v.length p → 0 ≤ pl0 x y u.length v.length (bfOf u v x y p) (elOf u v x y p) d ∧ 0 ≤ pl0 x y u.length v.length (bfOf u v x y p) (elOf u v x y p) d + d := by
  intro p
  induction p using Nat.strongRecOn with
  | _ p ih =>
    intro d hd
    have hd' := diags_iff.mp hd
    obtain ⟨hm, hle⟩ := lmax_spots x y u.length v.length (bfOf u v x y p) (elOf u v x y p) d
    have h0 := hle 0 (spots_zero ..)
    refine pl0_ge h0 ?_ hd'.1.1 hd'.2.1
    by_cases hn : d < 0
    · have hp : 1 < p := by lia
      have e1 : elOf u v x y p = nowOf u v x y (p - 2) := by unfold elOf; rw [if_pos hp]
      have hdd : d + 1 ∈ diags u.length v.length (p - 2) := diags_iff.mpr ⟨⟨by lia, by lia⟩, by lia, by lia⟩
      have h1 := ag_now u v x y (p - 2) hdd
      have h2 := (ih (p - 2) (Nat.sub_lt (Nat.lt_of_succ_lt hp) (by decide)) (d + 1) hdd).2
      have h3 := plc_ge u v x y (bfOf u v x y (p - 2)) (elOf u v x y (p - 2)) (d + 1)
      have h4 := hle _ (spots_el x y u.length v.length (bfOf u v x y p) (elOf u v x y p) d _ (by rw [e1]; exact h1))
      lia
    · lia
theorem now_bd (u v : List Nat) (x y : List Int) (p : Nat) {d e : Int} (h : ag (nowOf u v x y p) d = some e) : 0 ≤ e ∧ 0 ≤ e + d ∧ e ≤ u.length ∧ e + d ≤ v.length ∧ d ∈ diags u.length v.length p := by
  have hd : d ∈ diags u.length v.length p := by
    rw [← ak_now u v x y]
    by_cases q : d ∈ ak (nowOf u v x y p)
    · exact q
    · rw [ag_none.mpr q] at h; cases h
  rw [ag_now u v x y p hd] at h
  cases h
  have h1 := pl0_low u v x y p d hd
  have h2 := plc_ge u v x y (bfOf u v x y p) (elOf u v x y p) d
  have h3 := plc_le u v x y (bfOf u v x y p) (elOf u v x y p) d h1.1 h1.2
  exact ⟨by omega, by omega, by omega, by omega, hd⟩
end TL
end
/-! ### TP9 -/
section
open PySem PyProof.Rows
namespace TL
section
variable {P : Pm} {k : Nat}

theorem ev_ieq {c : Cx} {σ : Sg} {e : Expr} {a b : Int} (q : a = b) (H : EvOK c σ e (.int a)) : EvOK c σ e (.int b) := q ▸ H
theorem ev_teq {c : Cx} {σ : Sg} {e : Expr} {a b : Tr} (q : a = b) (H : EvOK c σ e a) : EvOK c σ e b := q ▸ H
noncomputable def Jn (C : Sg) : Fl → Prop
  | .next σ' => Sub C σ'
  | _ => False
theorem st_imp {c : Cx} {σ : Sg} {st : Stmt} {Φ Ψ : Fl → Prop} (H : ∀ f, Φ f → Ψ f) (X : StOK c σ st Φ) : StOK c σ st Ψ := fun s m α B => wpAny_mono (X s m α B) (fun f s₁ h => by
  obtain ⟨h', tk', σ', m', α', e, B', F, r⟩ := h
  refine ⟨h', tk', σ', m', α', e, B', F, ?_⟩
  cases f with
  | ret v => obtain ⟨t, q, r⟩ := r; exact ⟨t, q, H _ r⟩
  | _ => exact H _ r) fun _ _ x => x
/-- both ways of a branch meet -/
theorem ex_join {c : Cx} {σ : Sg} {st : Stmt} {rest : List Stmt} {Φ : Fl → Prop} (C : Sg) (X : StOK c σ st (Jn C)) (Y : ExOK c C rest Φ) : ExOK c σ (st :: rest) Φ :=
  ex_cons (st_imp (fun f => match f with
    | .next σ' => fun h => ex_to h Y
    | .brk _ => fun h => h.elim
    | .cont _ => fun h => h.elim
    | .ret _ => fun h => h.elim) X)
theorem intsT_snoc (l : List Int) (z : Int) : intsT l ++ [.int z] = intsT (l ++ [z]) := by simp [intsT]
noncomputable def farT (u v : List Nat) (x y : List Int) (p : Nat) : List Tr := (List.range p).map fun q => dT (nowOf u v x y q)
theorem joinN_sgl_len : ∀ w : List Nat, (joinN 47 (sgl w)).length = 2 * w.length - 1
  | [] => rfl
  | [a] => rfl
  | a :: b :: r => by
    have ih := joinN_sgl_len (b :: r)
    show ([a] ++ 47 :: joinN 47 (sgl (b :: r))).length = _
    simp only [List.length_append, List.length_cons, List.length_nil, ih]
    (first | lia | omega)
noncomputable abbrev inT (u v : List Nat) (x y : List Int) (i j : Nat) (dd : Int) (l : List Int) : Sg := [("spots", .own (.list (intsT l))), ("d", .tree (.int dd)), ("now", .own (dT ((nowOf u v x y i).take j))), ("before", .tree (dT (bfOf u v x y i))), ("elder", .tree (dT (elOf u v x y i))), ("price", .tree (.int (i : Nat))), ("far", .own (.list (farT u v x y i))), ("m", .tree (.int (u.length : Nat))), ("n", .tree (.int (v.length : Nat))), ("first", .tree (.list (intsT x))), ("second", .tree (.list (intsT y))), ("ways", .tree (.list (strsT (waysOf u)))), ("others", .tree (.list (strsT (waysOf v))))]
noncomputable abbrev stopAt (u v : List Nat) (x y : List Int) (p : Nat) : Prop := ag (nowOf u v x y p) ((v.length : Int) - u.length) = some (u.length : Int)

theorem rounds_ok (H : PmOK P) {d : Df} (h : (defsOf pw)[17]? = some d) {u v : List Nat} {x y : List Int} (hu : ∀ c ∈ u, c ≠ 47 ∧ c ≠ 46) (hv : ∀ c ∈ v, c ≠ 47 ∧ c ≠ 46) (hul : u.length ≤ 8) (hvl : v.length ≤ 8) (hx : x.length = 8) (hy : y.length = 8)
    {p : Nat} (hp : p ≤ 2 * max u.length v.length) (hs : stopAt u v x y p) (hmin : ∀ q < p, ¬ stopAt u v x y q) :
    FnOK P (k + 4) d.name [.list (intsT x), .list (intsT y), .list (strsT (waysOf u)), .list (strsT (waysOf v))] [] (.tuple [.int p, dT (nowOf u v x y p)]) := by
  have hm := H.mem h
  cases h
  refine fn_intro hm (names := ["first", "second", "ways", "others"]) (args' := [.list (intsT x), .list (intsT y), .list (strsT (waysOf u)), .list (strsT (waysOf v))]) (by decide) (by intro z hz; simp only [List.mem_cons, List.not_mem_nil, or_false] at hz; rcases hz with rfl | rfl | rfl | rfl <;> rfl) rfl rfl rfl ?_ ?_
  · intro s a' dV kV cdv doc pm an ct N vs D hN R
    have := D.dflt rfl
    subst this
    obtain ⟨v1, r1, rfl, R₁, v2, r2, rfl, R₂, v3, r3, rfl, R₃, v4, r4, rfl, R₄, e⟩ := R
    have e : r4 = [] := e
    subst e
    exact BindsR.of_eq (binds := [("first", v1), ("second", v2), ("ways", v3), ("others", v4)]) (by rfl) ⟨rfl, v1, [v2, v3, v4], rfl, R₁, v2, [v3, v4], rfl, R₂, v3, [v4], rfl, R₃, v4, [], rfl, R₄, rfl⟩
  · intro A L a' cdv cells s N O _
    have lu : (waysOf u).length = u.length + 1 := by simp [waysOf]
    have lv : (waysOf v).length = v.length + 1 := by simp [waysOf]
    refine ex_cons (st_swap2 O (t := .int (u.length : Nat)) (u := .int (v.length : Nat)) (.inl rfl) (.inl rfl) (up_tuple O (ev_tuple (args_cons' ?_ (args_cons' ?_ args_nil')) (by show 2 ≤ sizeLine; decide))) ?_)
    · refine ev_ieq ?_ (ev_sub (ev_call_builtin O (b_len H) (args_cons' (ev_name O rfl) args_nil') (c_len_list (by rw [strsT_len]; (first | lia | omega)))) ev_int)
      rw [strsT_len, lu]; (first | lia | omega)
    · refine ev_ieq ?_ (ev_sub (ev_call_builtin O (b_len H) (args_cons' (ev_name O rfl) args_nil') (c_len_list (by rw [strsT_len]; (first | lia | omega)))) ev_int)
      rw [strsT_len, lv]; (first | lia | omega)
    refine ex_cons (st_assign_new O (args_new args_nil' (by decide)) ?_)
    refine ex_cons (st_for_c (W := Nat) O (fun i => [("far", .own (.list (farT u v x y i))), ("m", .tree (.int (u.length : Nat))), ("n", .tree (.int (v.length : Nat))), ("first", .tree (.list (intsT x))), ("second", .tree (.list (intsT y))), ("ways", .tree (.list (strsT (waysOf u)))), ("others", .tree (.list (strsT (waysOf v))))])
      (fun i w => w = i ∧ i ≤ p) (.inl rfl) (ito_range1 (n := 2 * max u.length v.length + 1) O (b_range H) (ev_ieq ?_ (ev_add (ev_mul ev_int (ev_call_builtin O (b_max H) (args_cons' (ev_name O rfl) (args_cons' (ev_name O rfl) args_nil')) (c_max2 O.hh)) (mul_l (by decide) (by decide))) ev_int)) (by (first | lia | omega))) 0 ⟨rfl, Nat.zero_le _⟩ (sub_cons rfl (sub_cons rfl (sub_cons rfl (sub_cons rfl (sub_cons rfl (sub_cons rfl (sub_cons rfl sub_nil))))))) ?_ ?_)
    · (first | lia | omega)
    · rintro i t w ht ⟨ew, hi⟩
      obtain rfl : i = w := ew.symm
      clear ew
      obtain ⟨hi2, rfl⟩ := rng_get ht
      have hti : (0 : Int) + (i : Int) * 1 = (i : Nat) := by (first | lia | omega)
      rw [hti]
      clear hti ht
      have hfl : (farT u v x y i).length = i := by simp [farT]
      have hfg : ∀ q, q < i → (farT u v x y i)[q]? = some (dT (nowOf u v x y q)) := fun q hq => by simp [farT, hq]
      refine ex_cons (st_assign O (t := dT (bfOf u v x y i)) (.inl rfl) (ev_ifexp (ts_cmp (ev_name O rfl) ev_int.rd cmp_gt) (fun q => ?_) (fun q => ?_)) ?_)
      · simp only [decide_eq_true_eq] at q
        refine ev_item_list (rd_own O rfl) (ev_sub (ev_name O rfl) ev_int) (by (first | lia | omega)) (by (first | lia | omega)) ?_ (fun _ _ => rfl)
        rw [show ((i : Int) - 1).toNat = i - 1 by (first | lia | omega), hfg _ (by (first | lia | omega))]
        unfold bfOf; rw [if_pos (by (first | lia | omega))]
      · simp only [decide_eq_false_iff_not] at q
        have : bfOf u v x y i = [] := by unfold bfOf; rw [if_neg (by (first | lia | omega))]
        rw [this]
        exact new_dict.ok
      refine ex_cons (st_assign O (t := dT (elOf u v x y i)) (.inl rfl) (ev_ifexp (ts_cmp (ev_name O rfl) ev_int.rd cmp_gt) (fun q => ?_) (fun q => ?_)) ?_)
      · simp only [decide_eq_true_eq] at q
        refine ev_item_list (rd_own O rfl) (ev_sub (ev_name O rfl) ev_int) (by (first | lia | omega)) (by (first | lia | omega)) ?_ (fun _ _ => rfl)
        rw [show ((i : Int) - 2).toNat = i - 2 by (first | lia | omega), hfg _ (by (first | lia | omega))]
        unfold elOf; rw [if_pos (by (first | lia | omega))]
      · simp only [decide_eq_false_iff_not] at q
        have : elOf u v x y i = [] := by unfold elOf; rw [if_neg (by (first | lia | omega))]
        rw [this]
        exact new_dict.ok
      refine ex_cons (st_assign_new O new_dict ?_)
      have lob := lo_bd i hul
      have hib := hi_bd i hvl
      have hlo : loD u.length i ≤ hiD v.length i := Int.le_trans lob.2 (Int.le_trans (by decide) hib.1)
      have hr1 : (diags u.length v.length i).length = (hiD v.length i - loD u.length i).toNat := by simp [diags]
      refine ex_cons (st_for_c (W := Nat) O (fun j => [("now", .own (dT ((nowOf u v x y i).take j))), ("before", .tree (dT (bfOf u v x y i))), ("elder", .tree (dT (elOf u v x y i))), ("price", .tree (.int (i : Nat))), ("far", .own (.list (farT u v x y i))), ("m", .tree (.int (u.length : Nat))), ("n", .tree (.int (v.length : Nat))), ("first", .tree (.list (intsT x))), ("second", .tree (.list (intsT y))), ("ways", .tree (.list (strsT (waysOf u)))), ("others", .tree (.list (strsT (waysOf v))))])
        (fun j w => w = j) (.inl rfl) (ito_range2 (a := loD u.length i) (z := hiD v.length i) (n := (hiD v.length i - loD u.length i).toNat) O (b_range H) (ev_ieq ?_ (ev_call_builtin O (b_max H) (args_cons' (ev_neg (ev_name O rfl)) (args_cons' (ev_neg (ev_floordiv (ev_name O rfl) ev_int (by decide) (np (by (first | lia | omega))))) args_nil')) (c_max2 O.hh)))
          (ev_ieq ?_ (ev_add (ev_call_builtin O (b_min H) (args_cons' (ev_name O rfl) (args_cons' (ev_floordiv (ev_name O rfl) ev_int (by decide) (np (by (first | lia | omega)))) args_nil')) (c_min2 O.hh)) ev_int)) (by (first | lia | omega)) ?_ ?_ ?_) 0 rfl (sub_cons rfl (sub_cons rfl (sub_cons rfl (sub_cons rfl (sub_cons rfl (sub_cons rfl (sub_cons rfl (sub_cons rfl (sub_cons rfl (sub_cons rfl (sub_cons rfl sub_nil))))))))))) ?_ ?_)
      · unfold loD; rw [Int.fdiv_eq_ediv_of_nonneg _ (by decide)]; rfl
      · unfold hiD; rw [Int.fdiv_eq_ediv_of_nonneg _ (by decide)]; rfl
      · exact Int.lt_of_lt_of_le (by decide) lob.1
      · exact Int.lt_of_le_of_lt lob.2 (by decide)
      · exact Int.lt_of_le_of_lt hib.2 (by decide)
      · rintro j t w ht ew
        obtain rfl : j = w := ew.symm
        clear ew
        obtain ⟨hj, rfl⟩ := rng_get ht
        obtain ⟨dd, hdd⟩ : ∃ dd, dd = loD u.length i + (j : Int) * 1 := ⟨_, rfl⟩
        rw [← hdd]
        have hdm : dd ∈ diags u.length v.length i := by rw [diags_mem]; (first | lia | omega)
        have hb := diags_mem.mp hdm
        refine ex_cons (st_assign_new O (args_new (args_cons' ev_int args_nil') (by show 1 ≤ sizeLine; decide)) ?_)
        refine ex_join (inT u v x y i j dd (sp0 x y u.length v.length (bfOf u v x y i) dd)) ?_ ?_
        · refine st_if (ts_cmp (ev_name O rfl) (ev_name O rfl).rd cmp_in) (fun q => ?_) fun q => ?_
          · simp only [decide_eq_true_eq] at q
            obtain ⟨p0, hp0⟩ := ag_some q
            have hbd : 0 ≤ p0 ∧ 0 ≤ p0 + dd ∧ p0 ≤ u.length ∧ p0 + dd ≤ v.length := by
              unfold bfOf at hp0
              split at hp0
              · have := now_bd u v x y _ hp0; (first | lia | omega)
              · cases hp0
            have hsp : sp0 x y u.length v.length (bfOf u v x y i) dd = if hot x y u.length v.length dd p0 then [0, p0, p0 + 1] else [0, p0] := by unfold sp0; rw [hp0]
            refine ex_cons (st_assign O (t := .int p0) (.inl rfl) (ev_item_dict (ev_name O rfl).rd (ev_name O rfl) (by rw [dget_asc, hp0]; rfl) (fun _ _ => rfl)) ?_)
            refine ex_cons (st_append O (ts := intsT [0]) rfl (ev_name O rfl) (by decide) ?_)
            rw [intsT_snoc]
            refine ex_cons (st_if (ts_bool (all_and (ts_cmp (ev_name O rfl) (ev_name O rfl).rd cmp_lt) fun _ => all_and (ts_cmp (ev_add (ev_name O rfl) (ev_name O rfl)) (ev_name O rfl).rd cmp_lt) fun _ => all_and_nil)) (fun r => ?_) fun r => ?_)
            · simp only [Bool.and_true, Bool.and_eq_true, decide_eq_true_eq] at r
              refine ex_cons (st_unpack2 O (t := .int (min (x.getD p0.toNat 0) (y.getD (p0 + dd).toNat 0))) (u := .int (max (x.getD p0.toNat 0) (y.getD (p0 + dd).toNat 0))) (.inl rfl) (.inl rfl) (up_list O (ev_call_builtin O (b_sorted H) (args_cons' (t := .list (intsT [x.getD p0.toNat 0, y.getD (p0 + dd).toNat 0])) (args_new (args_cons' (ev_item_list (ev_name O rfl).rd (ev_name O rfl) (by (first | lia | omega)) (by (first | lia | omega)) (intsT_get x _ (by (first | lia | omega))) (fun _ _ => rfl)) (args_cons' (ev_item_list (ev_name O rfl).rd (ev_add (ev_name O rfl) (ev_name O rfl)) (by (first | lia | omega)) (by (first | lia | omega)) (intsT_get y _ (by (first | lia | omega))) (fun _ _ => rfl)) args_nil')) (by show 2 ≤ sizeLine; decide)).ok args_nil') c_sorted2)) ?_)
              have hh : hot x y u.length v.length dd p0 = cs (x.getD p0.toNat 0) (y.getD (p0 + dd).toNat 0) := by
                unfold hot
                rw [decide_eq_true (by (first | lia | omega) : p0 < (u.length : Int)), decide_eq_true (by (first | lia | omega) : p0 + dd < (v.length : Int))]
                simp
              refine ex_cons (st_if (ts_bool (all_and (ts_cmp (ev_name O rfl) ev_int.rd cmp_lt) fun _ => all_and (ts_cmp (ev_sub (ev_name O rfl) (ev_name O rfl)) ev_int.rd cmp_eq) fun _ => all_and_nil)) (fun r2 => ?_) fun r2 => ?_)
              · rw [Bool.and_true] at r2
                refine ex_cons (st_append O (ts := intsT [0, p0]) rfl (ev_add (ev_name O rfl) ev_int) (by show 2 ≤ sizeLine; decide) ?_)
                rw [intsT_snoc]
                refine ex_nil (ex_nil (ex_nil ?_))
                rw [hsp, hh, show cs (x.getD p0.toNat 0) (y.getD (p0 + dd).toNat 0) = true from r2]
                exact sub_cons rfl (sub_cons rfl (sub_cons rfl (sub_cons rfl (sub_cons rfl (sub_cons rfl (sub_cons rfl (sub_cons rfl (sub_cons rfl (sub_cons rfl (sub_cons rfl (sub_cons rfl (sub_cons rfl sub_nil))))))))))))
              · rw [Bool.and_true] at r2
                refine ex_nil (ex_nil (ex_nil ?_))
                rw [hsp, hh, show cs (x.getD p0.toNat 0) (y.getD (p0 + dd).toNat 0) = false from r2]
                exact sub_cons rfl (sub_cons rfl (sub_cons rfl (sub_cons rfl (sub_cons rfl (sub_cons rfl (sub_cons rfl (sub_cons rfl (sub_cons rfl (sub_cons rfl (sub_cons rfl (sub_cons rfl (sub_cons rfl sub_nil))))))))))))
            · refine ex_nil (ex_nil ?_)
              have : hot x y u.length v.length dd p0 = false := by
                rw [Bool.and_true] at r
                unfold hot; rw [r]; rfl
              rw [hsp, this]
              exact sub_cons rfl (sub_cons rfl (sub_cons rfl (sub_cons rfl (sub_cons rfl (sub_cons rfl (sub_cons rfl (sub_cons rfl (sub_cons rfl (sub_cons rfl (sub_cons rfl (sub_cons rfl (sub_cons rfl sub_nil))))))))))))
          · simp only [decide_eq_false_iff_not] at q
            have hsp : sp0 x y u.length v.length (bfOf u v x y i) dd = [0] := by unfold sp0; rw [ag_none.mpr q]
            rw [hsp]
            exact ex_nil (sub_cons rfl (sub_cons rfl (sub_cons rfl (sub_cons rfl (sub_cons rfl (sub_cons rfl (sub_cons rfl (sub_cons rfl (sub_cons rfl (sub_cons rfl (sub_cons rfl (sub_cons rfl (sub_cons rfl sub_nil)))))))))))))
        have h100 : (200 : Nat) ≤ sizeLine := by decide
        have h0l : (sp0 x y u.length v.length (bfOf u v x y i) dd).length ≤ 3 := by
          unfold sp0; split
          · simp
          · split <;> simp
        refine ex_join (inT u v x y i j dd (sp1 (elOf u v x y i) dd (sp0 x y u.length v.length (bfOf u v x y i) dd))) (st_if (ts_cmp (ev_name O rfl) (ev_name O rfl).rd cmp_in) (fun q => ?_) fun q => ?_) ?_
        · simp only [decide_eq_true_eq] at q
          obtain ⟨e, he⟩ := ag_some q
          have hsp : (sp1 (elOf u v x y i) dd (sp0 x y u.length v.length (bfOf u v x y i) dd)) = (sp0 x y u.length v.length (bfOf u v x y i) dd) ++ [e + 1] := by unfold sp1; rw [he]
          refine ex_cons (st_append O (ts := intsT (sp0 x y u.length v.length (bfOf u v x y i) dd)) rfl (ev_add (ev_item_dict (ev_name O rfl).rd (ev_name O rfl) (by rw [dget_asc, he]; rfl) (fun _ _ => rfl)) ev_int) (by rw [intsT_len]; (first | lia | omega)) ?_)
          rw [intsT_snoc]
          refine ex_nil ?_
          rw [hsp]
          exact sub_cons rfl (sub_cons rfl (sub_cons rfl (sub_cons rfl (sub_cons rfl (sub_cons rfl (sub_cons rfl (sub_cons rfl (sub_cons rfl (sub_cons rfl (sub_cons rfl (sub_cons rfl (sub_cons rfl sub_nil))))))))))))
        · simp only [decide_eq_false_iff_not] at q
          have hsp : (sp1 (elOf u v x y i) dd (sp0 x y u.length v.length (bfOf u v x y i) dd)) = (sp0 x y u.length v.length (bfOf u v x y i) dd) := by unfold sp1; rw [ag_none.mpr q]
          rw [hsp]
          exact ex_nil (sub_cons rfl (sub_cons rfl (sub_cons rfl (sub_cons rfl (sub_cons rfl (sub_cons rfl (sub_cons rfl (sub_cons rfl (sub_cons rfl (sub_cons rfl (sub_cons rfl (sub_cons rfl (sub_cons rfl sub_nil)))))))))))))
        have h1l : ((sp1 (elOf u v x y i) dd (sp0 x y u.length v.length (bfOf u v x y i) dd))).length ≤ 4 := by
          have := h0l
          unfold sp1; split <;> simp <;> (first | lia | omega)
        refine ex_join (inT u v x y i j dd (sp2 (elOf u v x y i) dd (sp1 (elOf u v x y i) dd (sp0 x y u.length v.length (bfOf u v x y i) dd)))) (st_if (ts_cmp (ev_sub (ev_name O rfl) ev_int) (ev_name O rfl).rd cmp_in) (fun q => ?_) fun q => ?_) ?_
        · simp only [decide_eq_true_eq] at q
          obtain ⟨e, he⟩ := ag_some q
          have hsp : (sp2 (elOf u v x y i) dd (sp1 (elOf u v x y i) dd (sp0 x y u.length v.length (bfOf u v x y i) dd))) = (sp1 (elOf u v x y i) dd (sp0 x y u.length v.length (bfOf u v x y i) dd)) ++ [e] := by unfold sp2; rw [he]
          refine ex_cons (st_append O (ts := intsT (sp1 (elOf u v x y i) dd (sp0 x y u.length v.length (bfOf u v x y i) dd))) rfl (ev_item_dict (ev_name O rfl).rd (ev_sub (ev_name O rfl) ev_int) (by rw [dget_asc, he]; rfl) (fun _ _ => rfl)) (by rw [intsT_len]; (first | lia | omega)) ?_)
          rw [intsT_snoc]
          refine ex_nil ?_
          rw [hsp]
          exact sub_cons rfl (sub_cons rfl (sub_cons rfl (sub_cons rfl (sub_cons rfl (sub_cons rfl (sub_cons rfl (sub_cons rfl (sub_cons rfl (sub_cons rfl (sub_cons rfl (sub_cons rfl (sub_cons rfl sub_nil))))))))))))
        · simp only [decide_eq_false_iff_not] at q
          have hsp : (sp2 (elOf u v x y i) dd (sp1 (elOf u v x y i) dd (sp0 x y u.length v.length (bfOf u v x y i) dd))) = (sp1 (elOf u v x y i) dd (sp0 x y u.length v.length (bfOf u v x y i) dd)) := by unfold sp2; rw [ag_none.mpr q]
          rw [hsp]
          exact ex_nil (sub_cons rfl (sub_cons rfl (sub_cons rfl (sub_cons rfl (sub_cons rfl (sub_cons rfl (sub_cons rfl (sub_cons rfl (sub_cons rfl (sub_cons rfl (sub_cons rfl (sub_cons rfl (sub_cons rfl sub_nil)))))))))))))
        have h2l : ((sp2 (elOf u v x y i) dd (sp1 (elOf u v x y i) dd (sp0 x y u.length v.length (bfOf u v x y i) dd)))).length ≤ 5 := by
          have := h1l
          unfold sp2; split <;> simp <;> (first | lia | omega)
        refine ex_join (inT u v x y i j dd (sp3 (elOf u v x y i) dd (sp2 (elOf u v x y i) dd (sp1 (elOf u v x y i) dd (sp0 x y u.length v.length (bfOf u v x y i) dd))))) (st_if (ts_cmp (ev_add (ev_name O rfl) ev_int) (ev_name O rfl).rd cmp_in) (fun q => ?_) fun q => ?_) ?_
        · simp only [decide_eq_true_eq] at q
          obtain ⟨e, he⟩ := ag_some q
          have hsp : (sp3 (elOf u v x y i) dd (sp2 (elOf u v x y i) dd (sp1 (elOf u v x y i) dd (sp0 x y u.length v.length (bfOf u v x y i) dd)))) = (sp2 (elOf u v x y i) dd (sp1 (elOf u v x y i) dd (sp0 x y u.length v.length (bfOf u v x y i) dd))) ++ [e + 1] := by unfold sp3; rw [he]
          refine ex_cons (st_append O (ts := intsT (sp2 (elOf u v x y i) dd (sp1 (elOf u v x y i) dd (sp0 x y u.length v.length (bfOf u v x y i) dd)))) rfl (ev_add (ev_item_dict (ev_name O rfl).rd (ev_add (ev_name O rfl) ev_int) (by rw [dget_asc, he]; rfl) (fun _ _ => rfl)) ev_int) (by rw [intsT_len]; (first | lia | omega)) ?_)
          rw [intsT_snoc]
          refine ex_nil ?_
          rw [hsp]
          exact sub_cons rfl (sub_cons rfl (sub_cons rfl (sub_cons rfl (sub_cons rfl (sub_cons rfl (sub_cons rfl (sub_cons rfl (sub_cons rfl (sub_cons rfl (sub_cons rfl (sub_cons rfl (sub_cons rfl sub_nil))))))))))))
        · simp only [decide_eq_false_iff_not] at q
          have hsp : (sp3 (elOf u v x y i) dd (sp2 (elOf u v x y i) dd (sp1 (elOf u v x y i) dd (sp0 x y u.length v.length (bfOf u v x y i) dd)))) = (sp2 (elOf u v x y i) dd (sp1 (elOf u v x y i) dd (sp0 x y u.length v.length (bfOf u v x y i) dd))) := by unfold sp3; rw [ag_none.mpr q]
          rw [hsp]
          exact ex_nil (sub_cons rfl (sub_cons rfl (sub_cons rfl (sub_cons rfl (sub_cons rfl (sub_cons rfl (sub_cons rfl (sub_cons rfl (sub_cons rfl (sub_cons rfl (sub_cons rfl (sub_cons rfl (sub_cons rfl sub_nil)))))))))))))
        have h3l : ((sp3 (elOf u v x y i) dd (sp2 (elOf u v x y i) dd (sp1 (elOf u v x y i) dd (sp0 x y u.length v.length (bfOf u v x y i) dd))))).length ≤ 6 := by
          have := h2l
          unfold sp3; split <;> simp <;> (first | lia | omega)
        obtain ⟨hmx, hmx'⟩ := lmax_spots x y u.length v.length (bfOf u v x y i) (elOf u v x y i) dd
        refine ex_freeze (x := "spots") (t := .list (intsT (spots x y u.length v.length (bfOf u v x y i) (elOf u v x y i) dd))) rfl ?_
        refine ex_cons (st_assign O (t := .int (pl0 x y u.length v.length (bfOf u v x y i) (elOf u v x y i) dd)) (.inl rfl) (ev_call_builtin O (b_min H) (args_cons' (ev_call_builtin O (b_max H) (args_cons' (ev_name O rfl) args_nil') (c_max O.hh hmx hmx')) (args_cons' (ev_name O rfl) (args_cons' (ev_sub (ev_name O rfl) (ev_name O rfl)) args_nil'))) (c_min3 O.hh)) ?_)
        obtain ⟨hq0, hq1⟩ := pl0_low u v x y i dd hdm
        have hq2 := pl0_le x y u.length v.length (bfOf u v x y i) (elOf u v x y i) dd
        have hpl : plc u v x y (bfOf u v x y i) (elOf u v x y i) dd = if anew (bfOf u v x y i) dd (pl0 x y u.length v.length (bfOf u v x y i) (elOf u v x y i) dd) then pl0 x y u.length v.length (bfOf u v x y i) (elOf u v x y i) dd + cpl (u.drop (pl0 x y u.length v.length (bfOf u v x y i) (elOf u v x y i) dd).toNat) (v.drop (pl0 x y u.length v.length (bfOf u v x y i) (elOf u v x y i) dd + dd).toNat) else pl0 x y u.length v.length (bfOf u v x y i) (elOf u v x y i) dd := rfl
        generalize pl0 x y u.length v.length (bfOf u v x y i) (elOf u v x y i) dd = p1 at hq0 hq1 hq2 hpl ⊢
        have han : ((!(decide (dd ∈ ak (bfOf u v x y i)))) || (decide ((ag (bfOf u v x y i) dd).getD 0 < p1) || false)) = anew (bfOf u v x y i) dd p1 := by
          unfold anew
          cases e : ag (bfOf u v x y i) dd with
          | none => rw [decide_eq_false (ag_none.mp e)]; rfl
          | some q => 
            have : dd ∈ ak (bfOf u v x y i) := by
              by_cases z : dd ∈ ak (bfOf u v x y i)
              · exact z
              · rw [ag_none.mpr z] at e; cases e
            rw [decide_eq_true this]; simp
        refine ex_join (("place", .tree (.int (plc u v x y (bfOf u v x y i) (elOf u v x y i) dd))) :: (inT u v x y i j dd []).drop 1) (st_if (b := anew (bfOf u v x y i) dd p1) (ts_eq han (ts_bool (all_or (ts_cmp (ev_name O rfl) (ev_name O rfl).rd cmp_notIn) fun q => all_or (ts_cmp (ev_name O rfl) (ev_item_dict (t := .int ((ag (bfOf u v x y i) dd).getD 0)) (ev_name O rfl).rd (ev_name O rfl) ?_ (fun _ _ => rfl)).rd cmp_gt) fun _ => all_or_nil))) (fun q => ?_) fun q => ?_) ?_
        · simp only [Bool.not_eq_false', decide_eq_true_eq] at q
          obtain ⟨e, he⟩ := ag_some q
          rw [dget_asc, he]; rfl
        · have hw : ∀ (z : List Nat) (a : Nat), a ≤ z.length → (strsT (waysOf z))[a]? = some (.str (S (lay (z.drop a)))) := fun z a ha => by
            have : a < z.length + 1 := by (first | lia | omega)
            simp [strsT, waysOf, this]
          have hc := cpl_le (u.drop p1.toNat) (v.drop (p1 + dd).toNat)
          rw [List.length_drop, List.length_drop] at hc
          refine ex_cons (st_assign O (t := .str (S (joinN 47 (sgl ((u.drop p1.toNat).take (cpl (u.drop p1.toNat) (v.drop (p1 + dd).toNat))))))) (.inl rfl) (ev_call O (H.mem (i := 13) rfl) rfl (args_cons' (t := .list [.str (S (dotted (u.drop p1.toNat))), .str (S (lay (v.drop (p1 + dd).toNat)))])
            (args_new (args_cons' (ev_teq ?_ (ev_cat ev_str (ev_item_list (ev_name O rfl).rd (ev_name O rfl) hq0 (by (first | lia | omega)) (hw u _ (by (first | lia | omega))) (fun _ _ => rfl)) ?_)) (args_cons' (ev_item_list (ev_name O rfl).rd (ev_add (ev_name O rfl) (ev_name O rfl)) hq1 (by (first | lia | omega)) (hw v _ (by (first | lia | omega))) (fun _ _ => rfl)) args_nil')) (by show 2 ≤ sizeLine; decide)).ok args_nil') (commonpath_ok H (h := rfl) (fun c hc => hu c (List.mem_of_mem_drop hc)) (fun c hc => hv c (List.mem_of_mem_drop hc)) (by rw [List.length_drop]; (first | lia | omega)) (by rw [List.length_drop]; (first | lia | omega)))) ?_)
          · rw [show (Str.ofString ".//") = S [46, 47, 47] by decide +kernel, S_append]; rfl
          · rw [show (Str.ofString ".//") = S [46, 47, 47] by decide +kernel, len_S, len_S, lay_len, List.length_drop]; show 3 + _ ≤ sizeLine; (first | lia | omega)
          obtain ⟨cc, hcc⟩ : ∃ cc, cc = cpl (u.drop p1.toNat) (v.drop (p1 + dd).toNat) := ⟨_, rfl⟩
          have hjl : (S (joinN 47 (sgl ((u.drop p1.toNat).take cc)))).length = 2 * cc - 1 := by
            rw [len_S, joinN_sgl_len, List.length_take, List.length_drop]; (first | lia | omega)
          rw [← hcc] at hc hpl ⊢
          refine ex_cons (st_aug O (a := .int p1) (b := .int (cc : Nat)) (.inl rfl) rfl (ev_ifexp (ts_value (ev_name O rfl).rd (tr_str (by rw [hjl]; (first | lia | omega)))) (fun z => ?_) (fun z => ?_)) inp_add ?_)
          · rw [hjl] at z
            simp only [bne_iff_ne, ne_eq] at z
            refine ev_ieq ?_ (ev_add (ev_floordiv (ev_call_builtin O (b_len H) (args_cons' (ev_name O rfl) args_nil') (c_len_str (by rw [hjl]; (first | lia | omega)))) ev_int (by decide) (np (by decide))) ev_int)
            rw [hjl, Int.fdiv_eq_ediv_of_nonneg _ (by decide)]; (first | lia | omega)
          · rw [hjl] at z
            have z : 2 * cc - 1 = 0 := by simpa using z
            have : cc = 0 := by (first | lia | omega)
            rw [this]; exact ev_int
          rw [hpl, q]
          exact ex_nil (sub_cons rfl (sub_cons rfl (sub_cons rfl (sub_cons rfl (sub_cons rfl (sub_cons rfl (sub_cons rfl (sub_cons rfl (sub_cons rfl (sub_cons rfl (sub_cons rfl (sub_cons rfl (sub_cons rfl sub_nil)))))))))))))
        · rw [hpl, q]
          exact ex_nil (sub_cons rfl (sub_cons rfl (sub_cons rfl (sub_cons rfl (sub_cons rfl (sub_cons rfl (sub_cons rfl (sub_cons rfl (sub_cons rfl (sub_cons rfl (sub_cons rfl (sub_cons rfl (sub_cons rfl sub_nil)))))))))))))
        have hjl : j < (nowOf u v x y i).length := by
          have := congrArg List.length (ak_now u v x y i)
          rw [hr1] at this
          unfold ak at this
          rw [List.length_map] at this
          (first | lia | omega)
        have hel : (nowOf u v x y i)[j]? = some (dd, plc u v x y (bfOf u v x y i) (elOf u v x y i) dd) := by
          rw [nowOf_eq]
          unfold roundOf diags
          rw [List.getElem?_map, List.getElem?_map, List.getElem?_range hj]
          simp [hdd]
        have hnin : dd ∉ ak ((nowOf u v x y i).take j) := by
          intro z
          unfold ak at z
          obtain ⟨⟨d', q'⟩, z1, z2⟩ := List.mem_map.mp z
          have z2 : d' = dd := z2
          subst z2
          obtain ⟨r, hr, hr'⟩ := List.getElem_of_mem z1
          rw [List.length_take] at hr
          rw [List.getElem_take] at hr'
          have : (nowOf u v x y i)[r]? = some (d', q') := by rw [List.getElem?_eq_getElem (by (first | lia | omega)), hr']
          rw [nowOf_eq] at this
          unfold roundOf diags at this
          rw [List.getElem?_map, List.getElem?_map, List.getElem?_range (by (first | lia | omega))] at this
          simp only [Option.map_some, Option.some.injEq, Prod.mk.injEq] at this
          (first | lia | omega)
        have htk : (nowOf u v x y i).take (j + 1) = (nowOf u v x y i).take j ++ [(dd, plc u v x y (bfOf u v x y i) (elOf u v x y i) dd)] := by
          rw [List.take_add_one, hel]; rfl
        refine ex_cons (st_setdict O (x := "now") (ks := ak ((nowOf u v x y i).take j)) (ts := av ((nowOf u v x y i).take j)) (t := .int (plc u v x y (bfOf u v x y i) (elOf u v x y i) dd)) (i := dd) rfl (ev_name O rfl) (ev_name O rfl) hnin ?_ ?_)
        · have : hiD v.length i - loD u.length i ≤ 20 := by (first | lia | omega)
          unfold ak; rw [List.length_map, List.length_take]; (first | lia | omega)
        · refine ex_nil ⟨j + 1, rfl, ?_⟩
          have e : dT ((nowOf u v x y i).take (j + 1)) = .dict (ak ((nowOf u v x y i).take j) ++ [dd]) (av ((nowOf u v x y i).take j) ++ [.int (plc u v x y (bfOf u v x y i) (elOf u v x y i) dd)]) := by
            rw [htk]; unfold dT ak av; simp
          rw [e]
          exact sub_cons rfl (sub_cons rfl (sub_cons rfl (sub_cons rfl (sub_cons rfl (sub_cons rfl (sub_cons rfl (sub_cons rfl (sub_cons rfl (sub_cons rfl (sub_cons rfl sub_nil))))))))))
      · rintro σ' w ew hS
        have hlen : (nowOf u v x y i).length = (hiD v.length i - loD u.length i).toNat := by
          have := congrArg List.length (ak_now u v x y i)
          rw [hr1] at this
          unfold ak at this
          rw [List.length_map] at this
          exact this
        have ew : w = (hiD v.length i - loD u.length i).toNat := by
          rw [ew, intsT_len]; unfold rng; rw [List.length_map, List.length_range]
        rw [ew, ← hlen, List.take_length] at hS
        refine ex_to hS ?_
        clear hS
        refine ex_freeze (x := "now") (t := dT (nowOf u v x y i)) rfl ?_
        refine ex_cons (st_append O (ts := farT u v x y i) rfl (ev_name O rfl) (by rw [hfl]; show i ≤ sizeLine; have : (200 : Nat) ≤ sizeLine := by decide
                                                                                   (first | lia | omega)) ?_)
        have hfs : farT u v x y i ++ [dT (nowOf u v x y i)] = farT u v x y (i + 1) := by unfold farT; rw [List.range_succ]; simp
        rw [hfs]
        have hst : ((decide (((v.length : Int) - u.length) ∈ ak (nowOf u v x y i))) && (((ag (nowOf u v x y i) ((v.length : Int) - u.length)).getD 0 == (u.length : Int)) && true)) = decide (stopAt u v x y i) := by
          unfold stopAt
          cases e : ag (nowOf u v x y i) ((v.length : Int) - u.length) with
          | none => rw [decide_eq_false (ag_none.mp e)]; simp
          | some q =>
            have : ((v.length : Int) - u.length) ∈ ak (nowOf u v x y i) := by
              by_cases z : ((v.length : Int) - u.length) ∈ ak (nowOf u v x y i)
              · exact z
              · rw [ag_none.mpr z] at e; cases e
            rw [decide_eq_true this]
            simp only [Option.getD_some, Bool.and_true, Bool.true_and, Option.some.injEq]
            exact (Bool.beq_eq_decide_eq _ _)
        refine ex_cons (st_if (b := decide (stopAt u v x y i)) (ts_eq hst (ts_bool (all_and (ts_cmp (ev_sub (ev_name O rfl) (ev_name O rfl)) (ev_name O rfl).rd cmp_in) fun q => all_and (ts_cmp (ev_item_dict (t := .int ((ag (nowOf u v x y i) ((v.length : Int) - u.length)).getD 0)) (ev_name O rfl).rd (ev_sub (ev_name O rfl) (ev_name O rfl)) ?_ (fun _ _ => rfl)) (ev_name O rfl).rd cmp_eq) fun _ => all_and_nil))) (fun q => ?_) fun q => ?_)
        · simp only [decide_eq_true_eq] at q
          obtain ⟨e, he⟩ := ag_some q
          rw [dget_asc, he]; rfl
        · have q : stopAt u v x y i := by simpa using q
          have hip : i = p := by
            by_cases z : i < p
            · exact absurd q (hmin i z)
            · (first | lia | omega)
          subst hip
          refine ex_cons (st_return (ev_tuple (args_cons' (ev_name O rfl) (args_cons' (ev_name O rfl) args_nil')) (by show 2 ≤ sizeLine; decide)) ?_)
          rfl
        · have q : ¬ stopAt u v x y i := by simpa using q
          have hip : i ≠ p := fun z => q (z ▸ hs)
          exact ex_nil (ex_nil ⟨i + 1, ⟨rfl, by (first | lia | omega)⟩, sub_cons rfl (sub_cons rfl (sub_cons rfl (sub_cons rfl (sub_cons rfl (sub_cons rfl (sub_cons rfl sub_nil))))))⟩)
    · rintro σ' w ⟨rfl, hw⟩ hS
      exfalso
      rw [intsT_len] at hw
      unfold rng at hw
      rw [List.length_map, List.length_range] at hw
      (first | lia | omega)
end
end TL
end
/-! ### PL1 -/
section
open PySem PyProof.Rows
namespace TL

/-! the distance, in plain terms -/
theorem subc_self (x : Nat) : subc x x = 0 := by unfold subc subCost; simp
theorem subc_comm (x y : Nat) : subc x y = subc y x := by
  unfold subc subCost
  rw [show (S [x] == S [y]) = (S [y] == S [x]) by rw [S_beq, S_beq, Bool.beq_comm]]
  rw [show (Txt.lower (S [x]) == Txt.lower (S [y])) = (Txt.lower (S [y]) == Txt.lower (S [x])) from Bool.beq_comm]
theorem subc_bd (x y : Nat) : 0 ≤ subc x y ∧ subc x y ≤ 2 := by
  unfold subc subCost; split
  · (first | lia | omega)
  · split <;> (first | lia | omega)
theorem subc_ne {x y : Nat} (h : x ≠ y) : 1 ≤ subc x y := by
  unfold subc subCost
  rw [S_beq, show ([x] == [y]) = false by simpa using h]
  simp only [Bool.false_eq_true, if_false]
  split <;> (first | lia | omega)

noncomputable def ed : List Nat → List Nat → Int
  | [], b => 2 * (b.length : Int)
  | x :: a, [] => 2 * ((a.length : Int) + 1)
  | x :: a, y :: b => min (min (ed a (y :: b)) (ed (x :: a) b) + 2) (ed a b + subc x y)
termination_by a b => a.length + b.length

theorem ed_nil (b : List Nat) : ed [] b = 2 * (b.length : Int) := by unfold ed; rfl
theorem ed_nil' (a : List Nat) : ed a [] = 2 * (a.length : Int) := by cases a <;> unfold ed <;> simp
theorem ed_cons (x y : Nat) (a b : List Nat) : ed (x :: a) (y :: b) = min (min (ed a (y :: b)) (ed (x :: a) b) + 2) (ed a b + subc x y) := by rw [ed]

theorem min_plus (a b c : Int) : min a b + c = min (a + c) (b + c) := by (first | lia | omega)
theorem ed_le1 (x y : Nat) (a b : List Nat) : ed (x :: a) (y :: b) ≤ ed a (y :: b) + 2 := by
  rw [ed_cons, min_plus]; exact Int.le_trans (Int.min_le_left _ _) (Int.min_le_left _ _)
theorem ed_le2 (x y : Nat) (a b : List Nat) : ed (x :: a) (y :: b) ≤ ed (x :: a) b + 2 := by
  rw [ed_cons, min_plus]; exact Int.le_trans (Int.min_le_left _ _) (Int.min_le_right _ _)
theorem ed_le3 (x y : Nat) (a b : List Nat) : ed (x :: a) (y :: b) ≤ ed a b + subc x y := by
  rw [ed_cons]; exact Int.min_le_right _ _
theorem min_or (p q r s : Int) : min (min p q + 2) (r + s) = p + 2 ∨ min (min p q + 2) (r + s) = q + 2 ∨ min (min p q + 2) (r + s) = r + s := by (first | lia | omega)
theorem ed_or (x y : Nat) (a b : List Nat) : ed (x :: a) (y :: b) = ed a (y :: b) + 2 ∨ ed (x :: a) (y :: b) = ed (x :: a) b + 2 ∨ ed (x :: a) (y :: b) = ed a b + subc x y := by
  rw [ed_cons]; exact min_or ..

theorem ed_low : ∀ (n : Nat) (a b : List Nat), a.length + b.length ≤ n → 2 * ((a.length : Int) - b.length) ≤ ed a b ∧ 2 * ((b.length : Int) - a.length) ≤ ed a b ∧ 0 ≤ ed a b
  | n, [], b, h => by rw [ed_nil]; simp; (first | lia | omega)
  | n, x :: a, [], h => by rw [ed_nil']; simp; (first | lia | omega)
  | 0, x :: a, y :: b, h => by simp at h
  | n + 1, x :: a, y :: b, h => by
    simp only [List.length_cons] at h
    have h4 := (subc_bd x y).1
    rcases ed_or x y a b with e | e | e
    · have h1 := ed_low n a (y :: b) (by simp only [List.length_cons]; (first | lia | omega))
      simp only [List.length_cons] at h1 ⊢
      (first | lia | omega)
    · have h2 := ed_low n (x :: a) b (by simp only [List.length_cons]; (first | lia | omega))
      simp only [List.length_cons] at h2 ⊢
      (first | lia | omega)
    · have h3 := ed_low n a b (by (first | lia | omega))
      simp only [List.length_cons]
      (first | lia | omega)
theorem ed_nonneg (a b : List Nat) : 0 ≤ ed a b := (ed_low _ a b (Nat.le_refl _)).2.2
theorem ed_diff (a b : List Nat) : 2 * ((b.length : Int) - a.length) ≤ ed a b := (ed_low _ a b (Nat.le_refl _)).2.1
theorem ed_diff' (a b : List Nat) : 2 * ((a.length : Int) - b.length) ≤ ed a b := (ed_low _ a b (Nat.le_refl _)).1

/-- one sign more costs two at most, either way -/
theorem ed_lip : ∀ (n : Nat) (a b : List Nat), a.length + b.length ≤ n → ∀ x, ed (x :: a) b ≤ ed a b + 2 ∧ ed a b ≤ ed (x :: a) b + 2 ∧ ed a (x :: b) ≤ ed a b + 2 ∧ ed a b ≤ ed a (x :: b) + 2
  | n, [], [], h, x => by simp [ed_nil, ed_nil']
  | n, [], y :: b, h, x => by
    match n with
    | 0 => simp at h
    | n + 1 =>
    simp only [List.length_cons] at h
    have h1 := ed_lip n [] b (by simpa using h) x
    have h4 := subc_bd x y
    have h0 := ed_diff [x] b
    rw [ed_cons]
    simp only [ed_nil, List.length_cons, List.length_nil] at h1 h0 ⊢
    (first | lia | omega)
  | n, x' :: a, [], h, x => by
    match n with
    | 0 => simp at h
    | n + 1 =>
    simp only [List.length_cons] at h
    have h1 := ed_lip n a [] (by simpa using h) x
    have h4 := subc_bd x' x
    have h0 := ed_diff' a [x]
    rw [ed_cons]
    simp only [ed_nil', List.length_cons, List.length_nil] at h1 h0 ⊢
    (first | lia | omega)
  | 0, x' :: a, y :: b, h, x => by simp at h
  | n + 1, x' :: a, y :: b, h, x => by
    simp only [List.length_cons] at h
    have s1 := (subc_bd x y).1
    have s2 := (subc_bd x' x).1
    refine ⟨ed_le1 .., ?_, ed_le2 .., ?_⟩
    · have g := ed_le2 x' y a b
      rcases ed_or x y (x' :: a) b with e | e | e
      · (first | lia | omega)
      · have h1 := (ed_lip n (x' :: a) b (by simp only [List.length_cons]; (first | lia | omega)) x).2.1
        (first | lia | omega)
      · (first | lia | omega)
    · have g := ed_le1 x' y a b
      rcases ed_or x' x a (y :: b) with e | e | e
      · have h5 := (ed_lip n a (y :: b) (by simp only [List.length_cons]; (first | lia | omega)) x).2.2.2
        (first | lia | omega)
      · (first | lia | omega)
      · (first | lia | omega)
theorem ed_l1 (x : Nat) (a b : List Nat) : ed (x :: a) b ≤ ed a b + 2 := (ed_lip _ a b (Nat.le_refl _) x).1
theorem ed_l2 (x : Nat) (a b : List Nat) : ed a b ≤ ed (x :: a) b + 2 := (ed_lip _ a b (Nat.le_refl _) x).2.1
theorem ed_r1 (x : Nat) (a b : List Nat) : ed a (x :: b) ≤ ed a b + 2 := (ed_lip _ a b (Nat.le_refl _) x).2.2.1
theorem ed_r2 (x : Nat) (a b : List Nat) : ed a b ≤ ed a (x :: b) + 2 := (ed_lip _ a b (Nat.le_refl _) x).2.2.2
theorem ed_diag (x y : Nat) (a b : List Nat) : ed a b ≤ ed (x :: a) (y :: b) := by
  have h3 := (subc_bd x y).1
  rcases ed_or x y a b with e | e | e
  · have h1 := ed_r2 y a b
    (first | lia | omega)
  · have h2 := ed_l2 x a b
    (first | lia | omega)
  · (first | lia | omega)
theorem ed_same (x : Nat) (a b : List Nat) : ed (x :: a) (x :: b) = ed a b := by
  have h := ed_le3 x x a b
  rw [subc_self, Int.add_zero] at h
  exact Int.le_antisymm h (ed_diag x x a b)
theorem ed_comm : ∀ (n : Nat) (a b : List Nat), a.length + b.length ≤ n → ed a b = ed b a
  | n, [], b, h => by rw [ed_nil, ed_nil']
  | n, x :: a, [], h => by rw [ed_nil, ed_nil']
  | 0, x :: a, y :: b, h => by simp at h
  | n + 1, x :: a, y :: b, h => by
    simp only [List.length_cons] at h
    rw [ed_cons, ed_cons, ed_comm n a (y :: b) (by simp only [List.length_cons]; (first | lia | omega)), ed_comm n (x :: a) b (by simp only [List.length_cons]; (first | lia | omega)), ed_comm n a b (by (first | lia | omega)), subc_comm x y, Int.min_comm (ed (y :: b) a)]

theorem eq_of_le {a b : Int} (h : ∀ t, t ≤ a ↔ t ≤ b) : a = b := Int.le_antisymm ((h a).mp (Int.le_refl _)) ((h b).mpr (Int.le_refl _))
theorem sw (e a b : Int) : e + a + b = e + b + a := Int.add_right_comm e a b
theorem nine (e1 e2 e3 e4 e5 e6 e7 e8 e9 s s0 : Int) :
    min (min (min (min e1 e2 + 2) (e3 + s)) (min (min e4 e5 + 2) (e6 + s)) + 2) (min (min e7 e8 + 2) (e9 + s) + s0) =
    min (min (min (min e1 e4 + 2) (e7 + s0)) (min (min e2 e5 + 2) (e8 + s0)) + 2) (min (min e3 e6 + 2) (e9 + s0) + s) := by
  refine eq_of_le fun t => ?_
  simp only [min_plus, Int.le_min]
  rw [sw e3 s 2, sw e6 s 2, sw e9 s s0, sw e7 s0 2, sw e8 s0 2]
  exact ⟨fun ⟨⟨⟨⟨h1, h2⟩, h3⟩, ⟨h4, h5⟩, h6⟩, ⟨h7, h8⟩, h9⟩ => ⟨⟨⟨⟨h1, h4⟩, h7⟩, ⟨h2, h5⟩, h8⟩, ⟨h3, h6⟩, h9⟩,
    fun ⟨⟨⟨⟨h1, h4⟩, h7⟩, ⟨h2, h5⟩, h8⟩, ⟨h3, h6⟩, h9⟩ => ⟨⟨⟨⟨h1, h2⟩, h3⟩, ⟨h4, h5⟩, h6⟩, ⟨h7, h8⟩, h9⟩⟩
theorem five (n e s s0 : Int) :
    min (min (n + 2 + 2) (min (min (n + 2) e + 2) (n + s)) + 2) (n + 2 + s0) = min (min (n + 2 + 2) (min (min (n + 2) e + 2) (n + s0)) + 2) (n + 2 + s) := by
  refine eq_of_le fun t => ?_
  simp only [min_plus, Int.le_min]
  rw [sw n s 2, sw n s0 2]
  exact ⟨fun ⟨⟨h1, ⟨h2, h3⟩, h4⟩, h5⟩ => ⟨⟨h1, ⟨h2, h3⟩, h5⟩, h4⟩, fun ⟨⟨h1, ⟨h2, h3⟩, h5⟩, h4⟩ => ⟨⟨h1, ⟨h2, h3⟩, h4⟩, h5⟩⟩
theorem five' (n e s s0 : Int) :
    min (min (min (min e (n + 2) + 2) (n + s)) (n + 2 + 2) + 2) (n + 2 + s0) = min (min (min (min e (n + 2) + 2) (n + s0)) (n + 2 + 2) + 2) (n + 2 + s) := by
  refine eq_of_le fun t => ?_
  simp only [min_plus, Int.le_min]
  rw [sw n s 2, sw n s0 2]
  exact ⟨fun ⟨⟨⟨⟨h3, h2⟩, h4⟩, h1⟩, h5⟩ => ⟨⟨⟨⟨h3, h2⟩, h5⟩, h1⟩, h4⟩, fun ⟨⟨⟨⟨h3, h2⟩, h5⟩, h1⟩, h4⟩ => ⟨⟨⟨⟨h3, h2⟩, h4⟩, h1⟩, h5⟩⟩
theorem len1 (n : Nat) : 2 * (((n + 1 : Nat)) : Int) = 2 * (n : Int) + 2 := by (first | lia | omega)

/-- from the other end it is the same -/
theorem ed_back : ∀ (n : Nat) (a b : List Nat), a.length + b.length ≤ n → ∀ x y, ed (a ++ [x]) (b ++ [y]) = min (min (ed a (b ++ [y])) (ed (a ++ [x]) b) + 2) (ed a b + subc x y)
  | n, [], [], h, x, y => ed_cons ..
  | 0, [], b0 :: b, h, x, y => by simp at h
  | n + 1, [], b0 :: b, h, x, y => by
    have h1 := ed_back n [] b (Nat.le_of_succ_le_succ h) x y
    simp only [List.nil_append, List.cons_append] at h1 ⊢
    rw [ed_cons x b0 [] (b ++ [y]), ed_cons x b0 [] b, h1]
    simp only [ed_nil, List.length_cons, List.length_append, List.length_nil, Nat.zero_add]
    rw [len1, len1]
    exact five ..
  | 0, a0 :: a, [], h, x, y => by simp at h
  | n + 1, a0 :: a, [], h, x, y => by
    have h1 := ed_back n a [] (Nat.le_of_succ_le_succ h) x y
    simp only [List.nil_append, List.cons_append] at h1 ⊢
    rw [ed_cons a0 y (a ++ [x]) [], ed_cons a0 y a [], h1]
    simp only [ed_nil', List.length_cons, List.length_append, List.length_nil, Nat.zero_add]
    rw [len1, len1]
    exact five' ..
  | 0, a0 :: a, b0 :: b, h, x, y => by simp at h
  | n + 1, a0 :: a, b0 :: b, h, x, y => by
    simp only [List.length_cons] at h
    have h1 := ed_back n a (b0 :: b) (by simp only [List.length_cons]; (first | lia | omega)) x y
    have h2 := ed_back n (a0 :: a) b (by simp only [List.length_cons]; (first | lia | omega)) x y
    have h3 := ed_back n a b (by (first | lia | omega)) x y
    simp only [List.cons_append] at h1 h2 ⊢
    rw [ed_cons a0 b0 (a ++ [x]) (b ++ [y]), h1, h2, h3, ed_cons a0 b0 a (b ++ [y]), ed_cons a0 b0 (a ++ [x]) b, ed_cons a0 b0 a b]
    exact nine ..
theorem ed_snoc (a b : List Nat) (x y : Nat) : ed (a ++ [x]) (b ++ [y]) = min (min (ed a (b ++ [y])) (ed (a ++ [x]) b) + 2) (ed a b + subc x y) := ed_back _ a b (Nat.le_refl _) x y
theorem ed_rev : ∀ (n : Nat) (a b : List Nat), a.length + b.length ≤ n → ed a.reverse b.reverse = ed a b
  | n, [], b, h => by simp [ed_nil]
  | n, x :: a, [], h => by simp [ed_nil']
  | 0, x :: a, y :: b, h => by simp at h
  | n + 1, x :: a, y :: b, h => by
    simp only [List.length_cons] at h
    have h1 := ed_rev n a (y :: b) (by simp; (first | lia | omega))
    have h2 := ed_rev n (x :: a) b (by simp; (first | lia | omega))
    have h3 := ed_rev n a b (by (first | lia | omega))
    rw [List.reverse_cons] at h1 h2
    rw [List.reverse_cons, List.reverse_cons, ed_snoc, h1, h2, h3, ed_cons]
theorem ed_drop : ∀ (a b : List Nat), ed (a.drop (cpl a b)) (b.drop (cpl a b)) = ed a b
  | [], b => by simp [cpl]
  | x :: a, [] => by simp [cpl]
  | x :: a, y :: b => by
    unfold cpl
    by_cases h : x = y
    · subst h
      simp only [if_true, List.drop_succ_cons]
      rw [ed_drop a b, ed_same]
    · simp [h]
theorem ed_trim (a b : List Nat) : ed (a.take (a.length - cpl a.reverse b.reverse)) (b.take (b.length - cpl a.reverse b.reverse)) = ed a b := by
  have e : ∀ (l : List Nat) (q : Nat), l.take (l.length - q) = (l.reverse.drop q).reverse := fun l q => by
    rw [List.drop_reverse, List.reverse_reverse]
  rw [e, e, ed_rev _ _ _ (Nat.le_refl _), ed_drop, ed_rev _ _ _ (Nat.le_refl _)]

/-- a way from end to end leads past each sign of the second -/
theorem ed_split : ∀ (n : Nat) (a q r : List Nat), a.length + q.length ≤ n → ∃ k, k ≤ a.length ∧ ed (a.take k) q + ed (a.drop k) r ≤ ed a (q ++ r)
  | n, a, [], r, h => ⟨0, Nat.zero_le _, by simp [ed_nil]⟩
  | n, [], y :: q, r, h => ⟨0, Nat.zero_le _, by simp [ed_nil]; (first | lia | omega)⟩
  | 0, x :: a, y :: q, r, h => by simp at h
  | n + 1, x :: a, y :: q, r, h => by
    simp only [List.length_cons] at h
    rw [List.cons_append]
    rcases ed_or x y a (q ++ r) with e | e | e
    · obtain ⟨k1, l1, h1⟩ := ed_split n a (y :: q) r (by simp only [List.length_cons]; (first | lia | omega))
      rw [List.cons_append] at h1
      refine ⟨k1 + 1, Nat.succ_le_succ l1, ?_⟩
      have := ed_l1 x (a.take k1) (y :: q)
      simp only [List.take_succ_cons, List.drop_succ_cons]
      (first | lia | omega)
    · obtain ⟨k2, l2, h2⟩ := ed_split n (x :: a) q r (by simp only [List.length_cons]; (first | lia | omega))
      refine ⟨k2, l2, ?_⟩
      have := ed_r1 y ((x :: a).take k2) q
      (first | lia | omega)
    · obtain ⟨k3, l3, h3⟩ := ed_split n a q r (by (first | lia | omega))
      refine ⟨k3 + 1, Nat.succ_le_succ l3, ?_⟩
      have := ed_le3 x y (a.take k3) q
      simp only [List.take_succ_cons, List.drop_succ_cons]
      (first | lia | omega)

/-! the table's rows -/
noncomputable def colOf (p : List Nat) : List Nat → List Nat → List Int
  | [], _ => []
  | x :: a, q => ed (p ++ [x]) q :: colOf (p ++ [x]) a q
theorem lrow_ok (bc : Nat) (q : List Nat) : ∀ (a p : List Nat) (r mn : Int), (∀ x, min (min r (ed (p ++ [x]) q) + 2) (ed p q + subc bc x) = ed (p ++ [x]) (q ++ [bc])) →
    (lrow bc a (colOf p a q) (ed p q) r mn).1 = colOf p a (q ++ [bc]) ∧ (a ≠ [] → (lrow bc a (colOf p a q) (ed p q) r mn).2.1 = ed (p ++ a) (q ++ [bc])) ∧
    ∀ t, (lrow bc a (colOf p a q) (ed p q) r mn).2.2 ≤ t ↔ mn ≤ t ∨ ∃ z ∈ colOf p a (q ++ [bc]), z ≤ t
  | [], p, r, mn, h => by simp [lrow, colOf]
  | x :: a, p, r, mn, h => by
    have hx := h x
    have step : ∀ x', min (min (ed (p ++ [x]) (q ++ [bc])) (ed (p ++ [x] ++ [x']) q) + 2) (ed (p ++ [x]) q + subc bc x') = ed (p ++ [x] ++ [x']) (q ++ [bc]) := fun x' => by
      rw [ed_snoc (p ++ [x]) q x' bc, subc_comm bc x']
    have ih := lrow_ok bc q a (p ++ [x]) (ed (p ++ [x]) (q ++ [bc])) (if ed (p ++ [x]) (q ++ [bc]) < mn then ed (p ++ [x]) (q ++ [bc]) else mn) step
    simp only [colOf, lrow]
    rw [hx]
    refine ⟨?_, fun _ => ?_, fun t => ?_⟩
    · rw [ih.1]
    · cases a with
      | nil => simp [lrow]
      | cons x' a => rw [ih.2.1 (by simp)]; simp
    · rw [ih.2.2 t]
      simp only [List.mem_cons, exists_eq_or_imp]
      constructor
      · rintro (h | h)
        · split at h
          · exact .inr (.inl h)
          · exact .inl h
        · exact .inr (.inr h)
      · rintro (h | h | h)
        · left; split <;> (first | lia | omega)
        · left; split <;> (first | lia | omega)
        · exact .inr h

theorem colOf_mem : ∀ (a p q : List Nat) (k : Nat), 1 ≤ k → k ≤ a.length → ed (p ++ a.take k) q ∈ colOf p a q
  | [], p, q, k, h1, h2 => by simp at h2; (first | lia | omega)
  | x :: a, p, q, 1, h1, h2 => by simp [colOf]
  | x :: a, p, q, k + 2, h1, h2 => by
    have := colOf_mem a (p ++ [x]) q (k + 1) (by (first | lia | omega)) (by simpa using h2)
    simp only [colOf, List.mem_cons]
    right
    simpa using this
theorem row_low {a q r : List Nat} (ha : a ≠ []) {bc : Nat} {t : Int} (h : ∀ z ∈ colOf [] a (q ++ [bc]), t < z) : t < ed a (q ++ [bc] ++ r) := by
  obtain ⟨k, hk, hs⟩ := ed_split _ a (q ++ [bc]) r (Nat.le_refl _)
  have h0 := ed_nonneg (a.drop k) r
  cases a with
  | nil => exact absurd rfl ha
  | cons x a =>
    rcases Nat.eq_zero_or_pos k with z | z
    · subst z
      have h1 := h _ (colOf_mem (x :: a) [] (q ++ [bc]) 1 (by (first | lia | omega)) (by simp))
      simp only [List.nil_append, List.take_succ_cons, List.take_zero] at h1
      have h2 := ed_snoc [] q x bc
      have s := subc_bd x bc
      simp only [List.nil_append, List.take_zero, ed_nil, List.length_append, List.length_cons, List.length_nil] at h2 hs
      (first | lia | omega)
    · have h1 := h _ (colOf_mem (x :: a) [] (q ++ [bc]) k z hk)
      rw [List.nil_append] at h1
      (first | lia | omega)

theorem lrows_ok {a : List Nat} {mc : Int} (ha : a ≠ []) (hmc : mc < BIG) : ∀ (bs q : List Nat) (res : Int), (bs = [] → res = ed a q) →
    ((mc < ed a (q ++ bs) ∧ lrows a mc bs q.length (colOf [] a q) res = mc + 1) ∨ lrows a mc bs q.length (colOf [] a q) res = ed a (q ++ bs))
  | [], q, res, h => by right; rw [List.append_nil]; exact h rfl
  | bc :: bs, q, res, h => by
    have hq : ed [] q = 2 * (q.length : Int) := ed_nil q
    have hr : ∀ x, min (min (2 * (q.length : Int)) (ed ([] ++ [x]) q) + 2) (ed [] q + subc bc x) = ed ([] ++ [x]) (q ++ [bc]) := fun x => by
      have s := subc_bd x bc
      rw [ed_snoc, subc_comm bc x, hq, ed_nil]
      simp only [List.length_append, List.length_cons, List.length_nil]
      (first | lia | omega)
    have hl := lrow_ok bc q a [] (2 * (q.length : Int)) BIG hr
    rw [hq] at hl
    unfold lrows
    dsimp only
    split
    · rename_i hb
      left
      refine ⟨?_, rfl⟩
      have : ∀ z ∈ colOf [] a (q ++ [bc]), mc < z := fun z hz => by
        have := mt (hl.2.2 mc).mpr (by (first | lia | omega))
        simp only [not_or, not_exists, not_and] at this
        have := this.2 z hz
        (first | lia | omega)
      simpa using row_low (r := bs) ha this
    · have ih := lrows_ok ha hmc bs (q ++ [bc]) (lrow bc a (colOf [] a q) (2 * (q.length : Int)) (2 * (q.length : Int)) BIG).2.1 (fun _ => hl.2.1 ha)
      rw [hl.1]
      simp only [List.length_append, List.length_cons, List.length_nil, List.append_assoc, List.cons_append, List.nil_append] at ih
      exact ih
theorem row0_col : ∀ (a p : List Nat), colOf p a [] = (List.range a.length).map fun (i : Nat) => 2 * (p.length : Int) + (2 + (i : Int) * 2)
  | [], p => rfl
  | x :: a, p => by
    rw [colOf, row0_col a (p ++ [x]), ed_nil', List.length_cons, List.range_succ_eq_map]
    simp only [List.map_cons, List.map_map, List.length_append, List.length_cons, List.length_nil]
    rw [List.cons_eq_cons]
    refine ⟨by (first | lia | omega), List.map_congr_left fun i _ => ?_⟩
    simp only [Function.comp]
    (first | lia | omega)

/-- what is told is the distance, or, above the bound, one more than the bound -/
noncomputable def Told (a b : List Nat) (mc r : Int) : Prop := (mc < ed a b ∧ r = mc + 1) ∨ r = ed a b
theorem Told.eq {a b : List Nat} {mc r : Int} (T : Told a b mc r) (h : ed a b ≤ mc) : r = ed a b := T.elim (fun z => absurd (Int.lt_of_lt_of_le z.1 h) (Int.lt_irrefl _)) id
theorem Told.gt {a b : List Nat} {mc r : Int} (T : Told a b mc r) (h : mc < ed a b) : mc < r := T.elim (fun z => z.2 ▸ Int.lt_succ mc) (fun z => z ▸ h)
theorem Told.pred {a b : List Nat} {p r : Int} (T : Told a b (p - 1) r) (h : ed a b = p) : r = p := T.elim (fun z => z.2.trans (Int.sub_add_cancel p 1)) (fun z => z.trans h)
theorem short_ok {a b : List Nat} {mc : Int} (ha : a ≠ []) (hb : b ≠ []) (hmc : mc < BIG) : Told a b mc (levShort a b mc) := by
  unfold levShort
  split
  · left
    have := ed_diff a b
    exact ⟨by (first | lia | omega), rfl⟩
  · have h := lrows_ok ha hmc b [] 0 (fun z => absurd z hb)
    rw [row0_col a []] at h
    simp only [List.length_nil, List.nil_append] at h
    have e : (List.range a.length).map (fun (i : Nat) => 2 * ((0 : Nat) : Int) + (2 + (i : Int) * 2)) = row0 a.length := by
      unfold row0
      refine List.map_congr_left fun i _ => ?_
      (first | lia | omega)
    rw [e] at h
    exact h
theorem mid_ok {a b : List Nat} {mc : Int} (hmc : mc < BIG) : Told a b mc (levMid a b mc) := by
  unfold levMid
  split
  · rename_i h
    right
    rcases h with rfl | rfl
    · rw [ed_nil]; simp
    · rw [ed_nil']; simp
  · rename_i h
    simp only [not_or] at h
    split
    · have := short_ok (mc := mc) h.2 h.1 hmc
      unfold Told at this ⊢
      rw [ed_comm _ b a (Nat.le_refl _)] at this
      exact this
    · exact short_ok h.1 h.2 hmc
theorem lev_told {a b : List Nat} {mc : Int} (hmc : mc < BIG) : Told a b mc (levFn a b mc) := by
  unfold levFn
  split
  · rename_i h
    subst h
    right
    have := ed_drop a a
    have e : ∀ l : List Nat, cpl l l = l.length := fun l => by
      induction l with
      | nil => rfl
      | cons x l ih => simp [cpl, ih]
    rw [e, List.drop_length, ed_nil] at this
    simpa using this
  · unfold levTail
    have := mid_ok (a := (a.drop (cpl a b)).take ((a.drop (cpl a b)).length - cpl (a.drop (cpl a b)).reverse (b.drop (cpl a b)).reverse)) (b := (b.drop (cpl a b)).take ((b.drop (cpl a b)).length - cpl (a.drop (cpl a b)).reverse (b.drop (cpl a b)).reverse)) (mc := mc) hmc
    unfold Told at this ⊢
    rw [ed_trim, ed_drop] at this
    exact this
end TL
end
/-! ### PL2 -/
section
open PySem PyProof.Rows
namespace TL

/-! the diagonals: each round's places are the furthest at its price -/
theorem ed_snl (x : Nat) (a b : List Nat) : ed (a ++ [x]) b = ed (x :: a.reverse) b.reverse := by
  rw [← ed_rev _ (a ++ [x]) b (Nat.le_refl _), List.reverse_append]; rfl
theorem ed_snr (x : Nat) (a b : List Nat) : ed a (b ++ [x]) = ed a.reverse (x :: b.reverse) := by
  rw [← ed_rev _ a (b ++ [x]) (Nat.le_refl _), List.reverse_append]; rfl
theorem take_more {l : List Nat} {i : Nat} (h : i < l.length) : l.take (i + 1) = l.take i ++ [l.getD i 0] := by
  rw [List.take_add_one, List.getElem?_eq_getElem h, List.getD_eq_getElem?_getD, List.getElem?_eq_getElem h]; rfl

noncomputable def Dd (u v : List Nat) (i j : Nat) : Int := ed (u.take i) (v.take j)
section
variable {u v : List Nat} {i j : Nat}
theorem Dd_nonneg : 0 ≤ Dd u v i j := ed_nonneg _ _
theorem Dd_i (h : i < u.length) : Dd u v (i + 1) j ≤ Dd u v i j + 2 ∧ Dd u v i j ≤ Dd u v (i + 1) j + 2 := by
  unfold Dd
  rw [take_more h, ed_snl, ← ed_rev _ (u.take i) _ (Nat.le_refl _)]
  exact ⟨ed_l1 .., ed_l2 ..⟩
theorem Dd_j (h : j < v.length) : Dd u v i (j + 1) ≤ Dd u v i j + 2 ∧ Dd u v i j ≤ Dd u v i (j + 1) + 2 := by
  unfold Dd
  rw [take_more h, ed_snr, ← ed_rev _ (u.take i) (v.take j) (Nat.le_refl _)]
  exact ⟨ed_r1 .., ed_r2 ..⟩
theorem Dd_succ (h : i < u.length) (h' : j < v.length) : Dd u v (i + 1) (j + 1) = min (min (Dd u v i (j + 1)) (Dd u v (i + 1) j) + 2) (Dd u v i j + subc (u.getD i 0) (v.getD j 0)) := by
  unfold Dd
  rw [take_more h, take_more h', ed_snoc]
theorem Dd_le3 (h : i < u.length) (h' : j < v.length) : Dd u v (i + 1) (j + 1) ≤ Dd u v i j + subc (u.getD i 0) (v.getD j 0) := by
  rw [Dd_succ h h']; exact Int.min_le_right _ _
theorem Dd_or (h : i < u.length) (h' : j < v.length) : Dd u v (i + 1) (j + 1) = Dd u v i (j + 1) + 2 ∨ Dd u v (i + 1) (j + 1) = Dd u v (i + 1) j + 2 ∨ Dd u v (i + 1) (j + 1) = Dd u v i j + subc (u.getD i 0) (v.getD j 0) := by
  rw [Dd_succ h h']; exact min_or ..
theorem Dd_diag (h : i < u.length) (h' : j < v.length) : Dd u v i j ≤ Dd u v (i + 1) (j + 1) := by
  have h3 := (subc_bd (u.getD i 0) (v.getD j 0)).1
  rcases Dd_or h h' with e | e | e
  · have h2 := (Dd_j (u := u) (i := i) h').2
    (first | lia | omega)
  · have h1 := (Dd_i (v := v) (j := j) h).2
    (first | lia | omega)
  · (first | lia | omega)
theorem Dd_mono : ∀ k, i + k ≤ u.length → j + k ≤ v.length → Dd u v i j ≤ Dd u v (i + k) (j + k)
  | 0, _, _ => Int.le_refl _
  | k + 1, h, h' => Int.le_trans (Dd_mono k (by (first | lia | omega)) (by (first | lia | omega))) (Dd_diag (by (first | lia | omega)) (by (first | lia | omega)))
theorem Dd_match (h : i < u.length) (h' : j < v.length) (e : u.getD i 0 = v.getD j 0) : Dd u v (i + 1) (j + 1) = Dd u v i j := by
  have g := Dd_le3 h h'
  rw [e, subc_self, Int.add_zero] at g
  exact Int.le_antisymm g (Dd_diag h h')
theorem Dd_slide : ∀ t, t ≤ cpl (u.drop i) (v.drop j) → Dd u v (i + t) (j + t) = Dd u v i j
  | 0, _ => rfl
  | t + 1, h => by
    have h1 := (cpl_more (u.drop i) (v.drop j) t (by (first | lia | omega))).mpr (by (first | lia | omega))
    rw [List.length_drop, List.length_drop] at h1
    rw [← Dd_slide t (by (first | lia | omega))]
    refine Dd_match (i := i + t) (j := j + t) (by (first | lia | omega)) (by (first | lia | omega)) ?_
    simpa [List.getD_eq_getElem?_getD, List.getElem?_drop] using h1.2.2
theorem Dd_low (hi : i ≤ u.length) (hj : j ≤ v.length) : 2 * ((i : Int) - j) ≤ Dd u v i j ∧ 2 * ((j : Int) - i) ≤ Dd u v i j := by
  unfold Dd
  have h1 := ed_diff (u.take i) (v.take j)
  have h2 := ed_diff' (u.take i) (v.take j)
  rw [List.length_take, List.length_take] at h1 h2
  (first | lia | omega)
theorem Dd_zero : Dd u v 0 j ≤ 2 * (j : Int) := by
  unfold Dd
  rw [List.take_zero, ed_nil, List.length_take]; (first | lia | omega)

theorem spots_mem {x y : List Int} {m n : Nat} {bf el : Asc} {d z : Int} (h : z ∈ spots x y m n bf el d) :
    z = 0 ∨ (∃ q, ag bf d = some q ∧ (z = q ∨ (z = q + 1 ∧ hot x y m n d q = true))) ∨ (∃ e, ag el d = some e ∧ z = e + 1) ∨ (∃ e, ag el (d - 1) = some e ∧ z = e) ∨ ∃ e, ag el (d + 1) = some e ∧ z = e + 1 := by
  have h0 : ∀ z ∈ sp0 x y m n bf d, z = 0 ∨ (∃ q, ag bf d = some q ∧ (z = q ∨ (z = q + 1 ∧ hot x y m n d q = true))) := by
    intro z hz
    unfold sp0 at hz
    split at hz
    · left; simpa using hz
    · rename_i p e
      split at hz
      · rename_i ht
        simp only [List.mem_cons, List.not_mem_nil, or_false] at hz
        rcases hz with h | h | h
        · exact .inl h
        · exact .inr ⟨p, e, .inl h⟩
        · exact .inr ⟨p, e, .inr ⟨h, ht⟩⟩
      · simp only [List.mem_cons, List.not_mem_nil, or_false] at hz
        rcases hz with h | h
        · exact .inl h
        · exact .inr ⟨p, e, .inl h⟩
  have h1 : ∀ z ∈ sp1 el d (sp0 x y m n bf d), z ∈ sp0 x y m n bf d ∨ ∃ e, ag el d = some e ∧ z = e + 1 := by
    intro z hz
    unfold sp1 at hz
    split at hz
    · exact .inl hz
    · rename_i e he
      rcases List.mem_append.mp hz with h | h
      · exact .inl h
      · exact .inr ⟨e, he, by simpa using h⟩
  have h2 : ∀ z ∈ sp2 el d (sp1 el d (sp0 x y m n bf d)), z ∈ sp1 el d (sp0 x y m n bf d) ∨ ∃ e, ag el (d - 1) = some e ∧ z = e := by
    intro z hz
    unfold sp2 at hz
    split at hz
    · exact .inl hz
    · rename_i e he
      rcases List.mem_append.mp hz with h | h
      · exact .inl h
      · exact .inr ⟨e, he, by simpa using h⟩
  unfold spots sp3 at h
  have h3 : z ∈ sp2 el d (sp1 el d (sp0 x y m n bf d)) ∨ ∃ e, ag el (d + 1) = some e ∧ z = e + 1 := by
    split at h
    · exact .inl h
    · rename_i e he
      rcases List.mem_append.mp h with h | h
      · exact .inl h
      · exact .inr ⟨e, he, by simpa using h⟩
  rcases h3 with h3 | h3
  · rcases h2 z h3 with h3 | h3
    · rcases h1 z h3 with h3 | h3
      · rcases h0 z h3 with h3 | h3
        · exact .inl h3
        · exact .inr (.inl h3)
      · exact .inr (.inr (.inl h3))
    · exact .inr (.inr (.inr (.inl h3)))
  · exact .inr (.inr (.inr (.inr h3)))
theorem spots_bf {x y : List Int} {m n : Nat} {bf el : Asc} {d q : Int} (h : ag bf d = some q) : q ∈ spots x y m n bf el d := by
  refine spots_sub _ _ _ _ _ _ _ _ ?_
  unfold sp0; rw [h]; dsimp only; split <;> simp
theorem spots_hot {x y : List Int} {m n : Nat} {bf el : Asc} {d q : Int} (h : ag bf d = some q) (ht : hot x y m n d q = true) : q + 1 ∈ spots x y m n bf el d := by
  refine spots_sub _ _ _ _ _ _ _ _ ?_
  unfold sp0; rw [h]; dsimp only; rw [if_pos ht]; simp
theorem spots_el1 {x y : List Int} {m n : Nat} {bf el : Asc} {d e : Int} (h : ag el d = some e) : e + 1 ∈ spots x y m n bf el d := by
  unfold spots sp3 sp2
  have : e + 1 ∈ sp1 el d (sp0 x y m n bf d) := by unfold sp1; rw [h]; simp
  split <;> split <;> simp [this]
theorem spots_el2 {x y : List Int} {m n : Nat} {bf el : Asc} {d e : Int} (h : ag el (d - 1) = some e) : e ∈ spots x y m n bf el d := by
  unfold spots sp3
  have : e ∈ sp2 el d (sp1 el d (sp0 x y m n bf d)) := by unfold sp2; rw [h]; simp
  split <;> simp [this]

/-- the places of a round are the furthest at the price c -/
structure Fur (u v : List Nat) (L : Asc) (c : Int) : Prop where
  snd : ∀ d q, ag L d = some q → ∃ i j : Nat, q = i ∧ i ≤ u.length ∧ j ≤ v.length ∧ (j : Int) = i + d ∧ Dd u v i j ≤ c
  mx : ∀ i j : Nat, i ≤ u.length → j ≤ v.length → Dd u v i j ≤ c → ∃ q, ag L ((j : Int) - i) = some q ∧ (i : Int) ≤ q
theorem Fur.nil {c : Int} (h : c < 0) : Fur u v [] c where
  snd := fun d q e => by cases e
  mx := fun i j _ _ h' => by have := Dd_nonneg (u := u) (v := v) (i := i) (j := j); (first | lia | omega)

/-- what the figures tell of the signs -/
noncomputable def Fits (u v : List Nat) (x y : List Int) : Prop := ∀ i j : Nat, i < u.length → j < v.length → (cs (x.getD i 0) (y.getD j 0) = true ↔ subc (u.getD i 0) (v.getD j 0) = 1)

theorem pin {i j a b m n : Nat} {d z : Int} (hj : (j : Int) = i + d) (h1 : (i : Int) ≤ z) (h4 : (i : Int) = z ∨ i = m ∨ j = n) (hb : (b : Int) = a + d) (hz : z = a) (ha : a ≤ m) (hn : b ≤ n) : i = a ∧ j = b := by lia
theorem pin2 {i j a b m n : Nat} {d z : Int} (hj : (j : Int) = i + d) (h1 : (i : Int) ≤ z) (h2 : i ≤ m) (h3 : j ≤ n) (h4 : (i : Int) = z ∨ i = m ∨ j = n) (hb : (b : Int) = a + d) (hz : z = a + 1) (ha : a ≤ m) (hn : b ≤ n) (hc : ¬ (a < m ∧ b < n)) : i = a ∧ j = b := by lia
theorem pin3 {i j a b m n : Nat} {d z : Int} (hj : (j : Int) = i + d) (h1 : (i : Int) ≤ z) (h3 : j ≤ n) (h4 : (i : Int) = z ∨ i = m ∨ j = n) (hb : (b : Int) = a + (d - 1)) (hz : z = a) (ha : a ≤ m) (hn : b ≤ n) (hc : ¬ b < n) : a = i + 1 ∧ j = b := by lia
theorem pin4 {i j a b m n : Nat} {d z : Int} (hj : (j : Int) = i + d) (h1 : (i : Int) ≤ z) (h2 : i ≤ m) (h4 : (i : Int) = z ∨ i = m ∨ j = n) (hb : (b : Int) = a + (d + 1)) (hz : z = a + 1) (ha : a ≤ m) (hn : b ≤ n) (hc : ¬ a < m) : i = a ∧ b = j + 1 := by lia
theorem le_one {a b : Int} {p : Int} (h : a ≤ b + 1) (h' : b ≤ p - 1) : a ≤ p := by lia
theorem le_two {a b : Int} {p : Int} (h : a ≤ b + 2) (h' : b ≤ p - 2) : a ≤ p := by lia
theorem le_less {a p : Int} {k : Nat} (h : a ≤ p - k) : a ≤ p := Int.le_trans h (Int.sub_le_self _ (Int.natCast_nonneg _))
theorem Fur.place {x y : List Int} {bf el : Asc} {p : Nat} {d : Int} (F : Fits u v x y) (B : Fur u v bf ((p : Int) - 1)) (E : Fur u v el ((p : Int) - 2)) (hd : d ∈ diags u.length v.length p)
    (h0 : 0 ≤ pl0 x y u.length v.length bf el d) {i j : Nat} (hi : (i : Int) = pl0 x y u.length v.length bf el d) (hj : (j : Int) = i + d) : Dd u v i j ≤ p := by
  obtain ⟨hm, hle⟩ := lmax_spots x y u.length v.length bf el d
  unfold pl0 at hi h0
  generalize lmax (spots x y u.length v.length bf el d) = z at hm hi h0
  have g1 : (i : Int) ≤ z := hi ▸ Int.le_trans (Int.min_le_left _ _) (Int.min_le_left _ _)
  have g2 : i ≤ u.length := Int.ofNat_le.mp (hi ▸ Int.le_trans (Int.min_le_left _ _) (Int.min_le_right _ _))
  have g3 : j ≤ v.length := by
    have : (i : Int) ≤ v.length - d := hi ▸ Int.min_le_right _ _
    lia
  have g4 : (i : Int) = z ∨ i = u.length ∨ j = v.length := by lia
  clear hi h0 hle
  rcases spots_mem hm with rfl | ⟨q, hq, h⟩ | ⟨e, he, h⟩ | ⟨e, he, h⟩ | ⟨e, he, h⟩
  · have hb := (diags_iff.mp hd).2.2
    have hi : i = 0 := Nat.le_zero.mp (Int.ofNat_le.mp g1)
    subst hi
    have := Dd_zero (u := u) (v := v) (j := j)
    lia
  · obtain ⟨i', j', hq', hi', hj', hd', hD⟩ := B.snd d q hq
    rcases h with h | ⟨h, ht⟩
    · obtain ⟨rfl, rfl⟩ := pin hj g1 g4 hd' (h.trans hq') hi' hj'
      exact le_less (k := 1) hD
    · have e1 : q.toNat = i' := by rw [hq']; rfl
      have e2 : (q + d).toNat = j' := by rw [hq', ← hd']; rfl
      unfold hot at ht
      simp only [Bool.and_eq_true, decide_eq_true_eq, e1, e2] at ht
      have l1 : i' < u.length := by have := ht.1.1; lia
      have l2 : j' < v.length := by have := ht.1.2; lia
      have hs := (F i' j' l1 l2).mp ht.2
      obtain ⟨rfl, rfl⟩ := pin (a := i' + 1) (b := j' + 1) hj g1 g4 (by lia) (by rw [h, hq']; rfl) l1 l2
      have g := Dd_le3 l1 l2
      rw [hs] at g
      exact le_one g hD
  · obtain ⟨i', j', hq', hi', hj', hd', hD⟩ := E.snd d e he
    have hz : z = (i' : Int) + 1 := by rw [h, hq']
    by_cases c : i' < u.length ∧ j' < v.length
    · obtain ⟨rfl, rfl⟩ := pin (a := i' + 1) (b := j' + 1) hj g1 g4 (by lia) hz c.1 c.2
      exact le_two (Int.le_trans (Dd_le3 c.1 c.2) (Int.add_le_add_left (subc_bd _ _).2 _)) hD
    · obtain ⟨rfl, rfl⟩ := pin2 hj g1 g2 g3 g4 hd' hz hi' hj' c
      exact le_less (k := 2) hD
  · obtain ⟨i', j', hq', hi', hj', hd', hD⟩ := E.snd (d - 1) e he
    by_cases c : j' < v.length
    · obtain ⟨rfl, rfl⟩ := pin (a := i') (b := j' + 1) hj g1 g4 (by lia) (h.trans hq') hi' c
      exact le_two (Dd_j c).1 hD
    · obtain ⟨rfl, rfl⟩ := pin3 hj g1 g3 g4 hd' (h.trans hq') hi' hj' c
      exact le_two (Dd_i hi').2 hD
  · obtain ⟨i', j', hq', hi', hj', hd', hD⟩ := E.snd (d + 1) e he
    have hz : z = (i' : Int) + 1 := by rw [h, hq']
    by_cases c : i' < u.length
    · obtain ⟨rfl, rfl⟩ := pin (a := i' + 1) (b := j') hj g1 g4 (by lia) hz c hj'
      exact le_two (Dd_i c).1 hD
    · obtain ⟨rfl, rfl⟩ := pin4 hj g1 g2 g4 hd' hz hi' hj' c
      exact le_two (Dd_j hj').2 hD

/-- no place further on a diagonal where the next signs differ -/
theorem Fur.stop {x y : List Int} {bf el : Asc} {p : Nat} {d : Int} (F : Fits u v x y) (B : Fur u v bf ((p : Int) - 1)) (E : Fur u v el ((p : Int) - 2))
    {i j : Nat} (hi : i < u.length) (hj : j < v.length) (hd : (j : Int) = i + d) (hge : pl0 x y u.length v.length bf el d ≤ i) (hne : u.getD i 0 ≠ v.getD j 0) : (p : Int) < Dd u v (i + 1) (j + 1) := by
  obtain ⟨hm, hle⟩ := lmax_spots x y u.length v.length bf el d
  unfold pl0 at hge
  have big : ∀ z ∈ spots x y u.length v.length bf el d, ¬ (i : Int) + 1 ≤ z := fun z hz h => by
    have := hle z hz
    (first | lia | omega)
  rcases Dd_or hi hj with e | e | e
  · by_cases h1 : Dd u v i (j + 1) ≤ (p : Int) - 2
    · obtain ⟨q, hq, hq'⟩ := E.mx i (j + 1) (Nat.le_of_lt hi) hj h1
      rw [show (((j + 1 : Nat) : Int) - i) = d + 1 by (first | lia | omega)] at hq
      exact absurd (Int.add_le_add_right hq' 1) (big _ (spots_el _ _ _ _ _ _ _ _ hq))
    · (first | lia | omega)
  · by_cases h2 : Dd u v (i + 1) j ≤ (p : Int) - 2
    · obtain ⟨q, hq, hq'⟩ := E.mx (i + 1) j hi (Nat.le_of_lt hj) h2
      rw [show ((j : Int) - ((i + 1 : Nat) : Int)) = d - 1 by (first | lia | omega)] at hq
      exact absurd hq' (big _ (spots_el2 hq))
    · (first | lia | omega)
  have hdd : ((j : Int) - (i : Int)) = d := by (first | lia | omega)
  by_cases h3 : Dd u v i j ≤ (p : Int) - 2
  · obtain ⟨q, hq, hq'⟩ := E.mx i j (Nat.le_of_lt hi) (Nat.le_of_lt hj) h3
    rw [hdd] at hq
    exact absurd (Int.add_le_add_right hq' 1) (big _ (spots_el1 hq))
  have s1 := subc_ne hne
  by_cases h4 : Dd u v i j ≤ (p : Int) - 1 ∧ subc (u.getD i 0) (v.getD j 0) = 1
  · obtain ⟨q, hq, hq'⟩ := B.mx i j (Nat.le_of_lt hi) (Nat.le_of_lt hj) h4.1
    rw [hdd] at hq
    by_cases c : q = i
    · subst c
      refine absurd (Int.le_refl _) (big _ (spots_hot hq ?_))
      unfold hot
      have e : ((i : Int) + d).toNat = j := by (first | lia | omega)
      rw [e, decide_eq_true (by (first | lia | omega) : (i : Int) < u.length), decide_eq_true (by (first | lia | omega) : (i : Int) + d < v.length), Int.toNat_natCast]
      simpa using (F i j hi hj).mpr h4.2
    · exact absurd (by (first | lia | omega)) (big _ (spots_bf hq))
  · (first | lia | omega)

theorem Fur.step {x y : List Int} {bf el : Asc} {p : Nat} (F : Fits u v x y) (B : Fur u v bf ((p : Int) - 1)) (E : Fur u v el ((p : Int) - 2))
    (hlow : ∀ d ∈ diags u.length v.length p, 0 ≤ pl0 x y u.length v.length bf el d ∧ 0 ≤ pl0 x y u.length v.length bf el d + d) : Fur u v (roundOf u v x y bf el p) p := by
  -- one diagonal
  have one : ∀ d ∈ diags u.length v.length p, ∃ i j : Nat, plc u v x y bf el d = i ∧ i ≤ u.length ∧ j ≤ v.length ∧ (j : Int) = i + d ∧ Dd u v i j ≤ p ∧ (i < u.length → j < v.length → (p : Int) < Dd u v (i + 1) (j + 1)) := by
    intro d hd
    obtain ⟨h0, h1⟩ := hlow d hd
    have h2 := pl0_le x y u.length v.length bf el d
    obtain ⟨si, hsi⟩ : ∃ si : Nat, (si : Int) = pl0 x y u.length v.length bf el d := ⟨(pl0 x y u.length v.length bf el d).toNat, by (first | lia | omega)⟩
    obtain ⟨sj, hsj⟩ : ∃ sj : Nat, (sj : Int) = si + d := ⟨((si : Int) + d).toNat, by (first | lia | omega)⟩
    have hP := Fur.place F B E hd h0 hsi hsj
    unfold plc
    dsimp only
    rw [← hsi] at h0 h1 h2 ⊢
    rw [show ((si : Int)).toNat = si by (first | lia | omega), show ((si : Int) + d).toNat = sj by (first | lia | omega)]
    have hc := cpl_le (u.drop si) (v.drop sj)
    rw [List.length_drop, List.length_drop] at hc
    split
    · refine ⟨si + cpl (u.drop si) (v.drop sj), sj + cpl (u.drop si) (v.drop sj), by (first | lia | omega), by (first | lia | omega), by (first | lia | omega), by (first | lia | omega), ?_, fun hi hj => ?_⟩
      · rw [Dd_slide _ (Nat.le_refl _)]; exact hP
      · refine Fur.stop (d := d) F B E hi hj (by (first | lia | omega)) (by (first | lia | omega)) fun z => ?_
        have := (cpl_more (u.drop si) (v.drop sj) (cpl (u.drop si) (v.drop sj)) (Nat.le_refl _)).mp ⟨by rw [List.length_drop]; (first | lia | omega), by rw [List.length_drop]; (first | lia | omega), by simpa [List.getD_eq_getElem?_getD, List.getElem?_drop] using z⟩
        (first | lia | omega)
    · rename_i ha
      refine ⟨si, sj, rfl, by (first | lia | omega), by (first | lia | omega), hsj, hP, fun hi hj => ?_⟩
      refine Fur.stop F B E hi hj hsj (by (first | lia | omega)) fun z => ?_
      unfold anew at ha
      split at ha
      · exact ha rfl
      · rename_i q hq
        simp only [decide_eq_true_eq] at ha
        obtain ⟨i', j', hq', hi', hj', hd', hD⟩ := B.snd d q hq
        have hge : q ≤ pl0 x y u.length v.length bf el d := by
          have := (lmax_spots x y u.length v.length bf el d).2 q (spots_bf hq)
          unfold pl0; (first | lia | omega)
        have e1 : i' = si := by (first | lia | omega)
        have e2 : j' = sj := by (first | lia | omega)
        subst e1 e2
        have hm := Dd_match hi hj z
        obtain ⟨q2, hq2, hq2'⟩ := B.mx (i' + 1) (j' + 1) (by (first | lia | omega)) (by (first | lia | omega)) (by (first | lia | omega))
        rw [show (((j' + 1 : Nat) : Int) - ((i' + 1 : Nat) : Int)) = d by (first | lia | omega), hq] at hq2
        cases hq2
        (first | lia | omega)
  constructor
  · intro d q hq
    have hd : d ∈ diags u.length v.length p := by
      rw [← ak_round u v x y bf el]
      by_cases z : d ∈ ak (roundOf u v x y bf el p)
      · exact z
      · rw [ag_none.mpr z] at hq; cases hq
    have e : ag (roundOf u v x y bf el p) d = some (plc u v x y bf el d) := ag_map hd
    rw [e] at hq
    cases hq
    obtain ⟨i, j, h1, h2, h3, h4, h5, _⟩ := one d hd
    exact ⟨i, j, h1, h2, h3, h4, h5⟩
  · intro i j hi hj hD
    have hl := Dd_low hi hj
    have hd : (j : Int) - i ∈ diags u.length v.length p := by
      exact diags_iff.mpr ⟨⟨by lia, by lia⟩, by lia, by lia⟩
    have e : ag (roundOf u v x y bf el p) ((j : Int) - i) = some (plc u v x y bf el ((j : Int) - i)) := ag_map hd
    refine ⟨_, e, ?_⟩
    obtain ⟨i', j', h1, h2, h3, h4, h5, h6⟩ := one _ hd
    rw [h1]
    by_cases c : i ≤ i'
    · exact_mod_cast c
    · exfalso
      have h7 := h6 (by (first | lia | omega)) (by (first | lia | omega))
      have h8 := Dd_mono (u := u) (v := v) (i := i' + 1) (j := j' + 1) (i - (i' + 1)) (by (first | lia | omega)) (by (first | lia | omega))
      rw [show i' + 1 + (i - (i' + 1)) = i by (first | lia | omega), show j' + 1 + (i - (i' + 1)) = j by (first | lia | omega)] at h8
      (first | lia | omega)

theorem now_fur {x y : List Int} (F : Fits u v x y) : ∀ p : Nat, Fur u v (nowOf u v x y p) p := by
  intro p
  induction p using Nat.strongRecOn with
  | _ p ih =>
    rw [nowOf_eq]
    refine Fur.step F ?_ ?_ fun d hd => pl0_low u v x y p d hd
    · unfold bfOf
      split
      · have := ih (p - 1) (by (first | lia | omega))
        rw [show (((p - 1 : Nat)) : Int) = (p : Int) - 1 by (first | lia | omega)] at this
        exact this
      · exact Fur.nil (by (first | lia | omega))
    · unfold elOf
      split
      · have := ih (p - 2) (by (first | lia | omega))
        rw [show (((p - 2 : Nat)) : Int) = (p : Int) - 2 by (first | lia | omega)] at this
        exact this
      · exact Fur.nil (by (first | lia | omega))
theorem stop_iff {x y : List Int} (F : Fits u v x y) (p : Nat) : ag (nowOf u v x y p) ((v.length : Int) - u.length) = some (u.length : Int) ↔ ed u v ≤ p := by
  have e : Dd u v u.length v.length = ed u v := by unfold Dd; rw [List.take_length, List.take_length]
  constructor
  · intro h
    obtain ⟨i, j, h1, h2, h3, h4, h5⟩ := (now_fur F p).snd _ _ h
    have e1 : i = u.length := by (first | lia | omega)
    have e2 : j = v.length := by (first | lia | omega)
    subst e1 e2
    (first | lia | omega)
  · intro h
    obtain ⟨q, h1, h2⟩ := (now_fur F p).mx u.length v.length (Nat.le_refl _) (Nat.le_refl _) (by (first | lia | omega))
    obtain ⟨i, j, h3, h4, _⟩ := (now_fur F p).snd _ _ h1
    rw [h1]
    congr 1
    (first | lia | omega)
theorem ed_top : ∀ a b : List Nat, ed a b ≤ 2 * (max a.length b.length : Nat)
  | [], b => by rw [ed_nil]; simp
  | x :: a, [] => by rw [ed_nil']; simp
  | x :: a, y :: b => by
    have h := ed_top a b
    have s := subc_bd x y
    rw [ed_cons]
    simp only [List.length_cons]
    (first | lia | omega)
end
end TL
end
/-! ### PL3 -/
section
open PySem PyProof.Rows
namespace TL

/-! the figures, their octets, the words -/
noncomputable def sgF (i : Nat) : Nat := if i < 26 then i + 65 else if i < 52 then i + 71 else if i < 62 then i - 4 else 43
theorem sg_F : ∀ i : Fin 63, sg i = sgF i := by decide +kernel
theorem sg_eq {i : Nat} (h : i < 63) : sg i = sgF i := sg_F ⟨i, h⟩
noncomputable def lowF (i : Nat) : Nat := if i < 26 then i + 97 else sgF i
theorem lower_F : ∀ i : Fin 63, Txt.lower (S [sgF i]) = S [lowF i] := by decide +kernel
theorem sg_plain {i : Nat} (h : i < 63) : sg i ≠ 47 ∧ sg i ≠ 46 ∧ sg i < 128 := by
  rw [sg_eq h]; unfold sgF; split
  · omega
  · split
    · omega
    · split <;> omega
theorem cs_all : ∀ n m : Fin 63, cs (n : Nat) (m : Nat) = decide ((if sgF n = sgF m then 0 else if lowF n = lowF m then 1 else 2 : Int) = 1) := by decide +kernel
theorem cs_sg {a b : Int} (ha : 0 ≤ a ∧ a < 63) (hb : 0 ≤ b ∧ b < 63) : cs a b = true ↔ subc (sg a.toNat) (sg b.toNat) = 1 := by
  obtain ⟨n, rfl⟩ : ∃ n : Nat, a = n := ⟨a.toNat, by omega⟩
  obtain ⟨m, rfl⟩ : ∃ m : Nat, b = m := ⟨b.toNat, by omega⟩
  have e1 : n < 63 := Int.ofNat_lt.mp ha.2
  have e2 : m < 63 := Int.ofNat_lt.mp hb.2
  rw [Int.toNat_natCast, Int.toNat_natCast, cs_all ⟨n, e1⟩ ⟨m, e2⟩, decide_eq_true_eq]
  unfold subc subCost
  rw [sg_eq e1, sg_eq e2, lower_F ⟨_, e1⟩, lower_F ⟨_, e2⟩, S_beq, S_beq]
  simp only [List.cons_beq_cons, List.beq_nil_eq, List.isEmpty_nil, Bool.and_true, beq_iff_eq]

noncomputable def sgsLit : List Nat := (List.range 63).map sgF
theorem signs_lit : ("ABCDEFGHIJKLMNOPQRSTUVWXYZabcdefghijklmnopqrstuvwxyz0123456789+" : Str) = S sgsLit := by decide +kernel

noncomputable def figs (tab : List Int) (n : Int) : List Int := (List.range 8).map fun (k : Nat) => tab.getD ((n.fdiv (6 ^ k)).fmod 6).toNat 0
noncomputable def fgN (l : List Int) : List Nat := l.map Int.toNat
noncomputable def wlen (n : Int) : Nat := (3 + (n.fdiv 1679616).fmod 4).toNat
noncomputable def word (tab : List Int) (n : Int) : List Nat := ((figs tab n).map fun f => sg f.toNat).take (wlen n)
theorem table_low (t : Int) : ∀ z ∈ lawTable t, 0 ≤ z ∧ z < 63 := by
  intro z hz
  unfold lawTable at hz
  simp only [List.mem_cons, List.not_mem_nil, or_false] at hz
  have h1 := Int.fmod_nonneg_of_pos t (b := 26) (by decide)
  have h2 := Int.fmod_lt_of_pos t (b := 26) (by decide)
  have h3 := Int.fmod_nonneg_of_pos (t.fmod 26 + 1 + (t.fdiv 26).fmod 25) (b := 26) (by decide)
  have h4 := Int.fmod_lt_of_pos (t.fmod 26 + 1 + (t.fdiv 26).fmod 25) (b := 26) (by decide)
  have h5 := Int.fmod_nonneg_of_pos (t.fdiv 650) (b := 11) (by decide)
  have h6 := Int.fmod_lt_of_pos (t.fdiv 650) (b := 11) (by decide)
  have h7 := Int.fmod_nonneg_of_pos ((t.fdiv 650).fmod 11 + 1 + (t.fdiv 7150).fmod 10) (b := 11) (by decide)
  have h8 := Int.fmod_lt_of_pos ((t.fdiv 650).fmod 11 + 1 + (t.fdiv 7150).fmod 10) (b := 11) (by decide)
  rcases hz with h | h | h | h | h | h <;> omega
theorem table_len (t : Int) : (lawTable t).length = 6 := rfl
theorem digit (n : Int) (k : Nat) : 0 ≤ (n.fdiv (6 ^ k)).fmod 6 ∧ (n.fdiv (6 ^ k)).fmod 6 < 6 := ⟨Int.fmod_nonneg_of_pos _ (by decide), Int.fmod_lt_of_pos _ (by decide)⟩
theorem figs_low (t n : Int) : ∀ z ∈ figs (lawTable t) n, 0 ≤ z ∧ z < 63 := by
  intro z hz
  unfold figs at hz
  obtain ⟨k, _, rfl⟩ := List.mem_map.mp hz
  have h := digit n k
  have : ((n.fdiv (6 ^ k)).fmod 6).toNat < (lawTable t).length := by rw [table_len]; omega
  rw [List.getD_eq_getElem?_getD, List.getElem?_eq_getElem this]
  exact table_low t _ (List.getElem_mem this)
theorem figs_len (tab : List Int) (n : Int) : (figs tab n).length = 8 := by simp [figs]
theorem wlen_bd (n : Int) : 3 ≤ wlen n ∧ wlen n ≤ 6 := by
  have h1 := Int.fmod_nonneg_of_pos (n.fdiv 1679616) (b := 4) (by decide)
  have h2 := Int.fmod_lt_of_pos (n.fdiv 1679616) (b := 4) (by decide)
  unfold wlen; omega
theorem word_len (tab : List Int) (n : Int) : (word tab n).length = wlen n := by
  have := wlen_bd n
  unfold word
  rw [List.length_take, List.length_map, figs_len]; omega
theorem word_plain (t n : Int) : ∀ c ∈ word (lawTable t) n, c ≠ 47 ∧ c ≠ 46 := by
  intro c hc
  obtain ⟨f, hf, rfl⟩ := List.mem_map.mp (List.mem_of_mem_take hc)
  have := figs_low t n f hf
  have := sg_plain (i := f.toNat) (by omega)
  exact ⟨this.1, this.2.1⟩
theorem word_get (t n : Int) {i : Nat} (h : i < (word (lawTable t) n).length) : (word (lawTable t) n).getD i 0 = sg ((figs (lawTable t) n).getD i 0).toNat ∧ 0 ≤ (figs (lawTable t) n).getD i 0 ∧ (figs (lawTable t) n).getD i 0 < 63 := by
  have h8 : i < (figs (lawTable t) n).length := by rw [figs_len]; rw [word_len] at h; have := wlen_bd n; omega
  have e : (figs (lawTable t) n).getD i 0 = (figs (lawTable t) n)[i] := by rw [List.getD_eq_getElem?_getD, List.getElem?_eq_getElem h8]; rfl
  refine ⟨?_, ?_⟩
  · rw [List.getD_eq_getElem?_getD, List.getElem?_eq_getElem h, e]
    simp [word]
  · rw [e]; exact figs_low t n _ (List.getElem_mem h8)
theorem word_fits (t n n' : Int) : Fits (word (lawTable t) n) (word (lawTable t) n') (figs (lawTable t) n) (figs (lawTable t) n') := by
  intro i j hi hj
  have h1 := word_get t n hi
  have h2 := word_get t n' hj
  rw [h1.1, h2.1]
  exact cs_sg h1.2 h2.2

/-! eight figures, six octets -/
theorem eight {l : List Int} (h : l.length = 8) : ∃ a b c d e f g i, l = [a, b, c, d, e, f, g, i] := by
  match l, h with
  | [a, b, c, d, e, f, g, i], _ => exact ⟨a, b, c, d, e, f, g, i, rfl⟩
noncomputable def quad (a b c d : Nat) : Nat := ((a * 64 + b) * 64 + c) * 64 + d
theorem octs_nat (v : Nat) : octs (v : Int) = [((v / 256 ^ 5 % 256 : Nat) : Int), ((v / 256 ^ 4 % 256 : Nat) : Int), ((v / 256 ^ 3 % 256 : Nat) : Int), ((v / 256 ^ 2 % 256 : Nat) : Int), ((v / 256 ^ 1 % 256 : Nat) : Int), ((v / 256 ^ 0 % 256 : Nat) : Int)] := by
  have q : ∀ p : Nat, ((v : Int).fdiv (256 ^ p)).fmod 256 = ((v / 256 ^ p % 256 : Nat) : Int) := fun p => by
    rw [Int.fdiv_eq_ediv_of_nonneg _ (Int.le_of_lt (Int.pow_pos (by decide))), Int.fmod_eq_emod_of_nonneg _ (by decide)]
    push_cast
    rfl
  have e6 : octs (v : Int) = [((v : Int).fdiv (256 ^ 5)).fmod 256, ((v : Int).fdiv (256 ^ 4)).fmod 256, ((v : Int).fdiv (256 ^ 3)).fmod 256, ((v : Int).fdiv (256 ^ 2)).fmod 256, ((v : Int).fdiv (256 ^ 1)).fmod 256, ((v : Int).fdiv (256 ^ 0)).fmod 256] := rfl
  rw [e6, q 5, q 4, q 3, q 2, q 1, q 0]
theorem halves (h l : Nat) (hh : h < 16777216) (hl : l < 16777216) : [(h * 16777216 + l) / 256 ^ 5 % 256, (h * 16777216 + l) / 256 ^ 4 % 256, (h * 16777216 + l) / 256 ^ 3 % 256, (h * 16777216 + l) / 256 ^ 2 % 256, (h * 16777216 + l) / 256 ^ 1 % 256, (h * 16777216 + l) / 256 ^ 0 % 256]
    = [h / 65536, h / 256 % 256, h % 256, l / 65536, l / 256 % 256, l % 256] := by
  have e : (h * 16777216 + l) / 16777216 = h := by rw [Nat.mul_comm, Nat.mul_add_div (by decide), Nat.div_eq_of_lt hl, Nat.add_zero]
  have d : ∀ k, (h * 16777216 + l) / (16777216 * k) = h / k := fun k => by rw [← Nat.div_div_eq_div_mul, e]
  have s6 : h * 16777216 = 256 * (h * 65536) := by rw [Nat.mul_left_comm]
  have s5 : h * 65536 = 256 * (h * 256) := by rw [Nat.mul_left_comm]
  have s4 : h * 16777216 = 65536 * (h * 256) := by rw [Nat.mul_left_comm]
  have f4 : (h * 16777216 + l) / 256 ^ 2 % 256 = l / 65536 := by
    rw [s4, show 256 ^ 2 = 65536 from rfl, Nat.mul_add_div (by decide), Nat.mul_comm h 256, Nat.mul_add_mod, Nat.mod_eq_of_lt (Nat.div_lt_of_lt_mul hl)]
  have f5 : (h * 16777216 + l) / 256 ^ 1 % 256 = l / 256 % 256 := by
    rw [s6, show 256 ^ 1 = 256 from rfl, Nat.mul_add_div (by decide), s5, Nat.mul_add_mod]
  have f6 : (h * 16777216 + l) / 256 ^ 0 % 256 = l % 256 := by
    rw [s6, show 256 ^ 0 = 1 from rfl, Nat.div_one, Nat.mul_add_mod]
  rw [f4, f5, f6, show 256 ^ 5 = 16777216 * 65536 from rfl, show 256 ^ 4 = 16777216 * 256 from rfl, show 256 ^ 3 = 16777216 from rfl, d, d, e, Nat.mod_eq_of_lt (Nat.div_lt_of_lt_mul hh)]
theorem quad_lt {a b c d : Nat} (ha : a < 64) (hb : b < 64) (hc : c < 64) (hd : d < 64) : quad a b c d < 16777216 := by unfold quad; omega
theorem quad_three {a b c d : Nat} (hb : b < 64) (hc : c < 64) (hd : d < 64) : quad a b c d / 65536 = a * 4 + b / 16 ∧ quad a b c d / 256 % 256 = b % 16 * 16 + c / 4 ∧ quad a b c d % 256 = c % 4 * 64 + d := by
  unfold quad
  refine ⟨?_, ?_, ?_⟩ <;> omega
theorem octets_of (a b c d e f g i : Nat) (ha : a < 64) (hb : b < 64) (hc : c < 64) (hd : d < 64) (he : e < 64) (hf : f < 64) (hg : g < 64) (hi : i < 64) :
    octs (packed [(a : Int), (b : Int), (c : Int), (d : Int), (e : Int), (f : Int), (g : Int), (i : Int)] 0) =
      [((a * 4 + b / 16 : Nat) : Int), ((b % 16 * 16 + c / 4 : Nat) : Int), ((c % 4 * 64 + d : Nat) : Int), ((e * 4 + f / 16 : Nat) : Int), ((f % 16 * 16 + g / 4 : Nat) : Int), ((g % 4 * 64 + i : Nat) : Int)] := by
  have hp : packed [(a : Int), (b : Int), (c : Int), (d : Int), (e : Int), (f : Int), (g : Int), (i : Int)] 0 = ((quad a b c d * 16777216 + quad e f g i : Nat) : Int) := by
    simp only [packed, quad]; omega
  have hh := halves _ _ (quad_lt ha hb hc hd) (quad_lt he hf hg hi)
  obtain ⟨q1, q2, q3⟩ := quad_three (a := a) hb hc hd
  obtain ⟨q4, q5, q6⟩ := quad_three (a := e) hf hg hi
  rw [q1, q2, q3, q4, q5, q6] at hh
  simp only [List.cons.injEq, and_true] at hh
  obtain ⟨h1, h2, h3, h4, h5, h6⟩ := hh
  rw [hp, octs_nat, h1, h2, h3, h4, h5, h6]

theorem b64in_8 (lc : Nat) : b64in lc 8 = ([lc / 4 % 64], 2) := by
  unfold b64in; simp only [show 6 ≤ 8 by decide, dite_true]
  unfold b64in; simp
theorem b64in_10 (lc : Nat) : b64in lc 10 = ([lc / 16 % 64], 4) := by
  unfold b64in; simp only [show 6 ≤ 10 by decide, dite_true]
  unfold b64in; simp
theorem b64in_12 (lc : Nat) : b64in lc 12 = ([lc / 64 % 64, lc % 64], 0) := by
  unfold b64in; simp only [show 6 ≤ 12 by decide, dite_true]
  unfold b64in; simp only [show 6 ≤ 12 - 6 by decide, dite_true]
  unfold b64in; simp
theorem stp_mod (lc x : Nat) (hx : x < 256) : (lc * 256 + x) % 65536 % 256 = x := by
  rw [Nat.mod_mod_of_dvd _ (by decide), Nat.mul_comm, Nat.mul_add_mod, Nat.mod_eq_of_lt hx]
theorem stp1 (lc x : Nat) (hx : x < 256) : (lc * 256 + x) % 65536 / 4 % 64 = x / 4 := by omega
theorem stp2 (lc y : Nat) (hy : y < 256) : (lc * 256 + y) % 65536 / 16 % 64 = lc % 256 % 4 * 16 + y / 16 := by omega
theorem stp3 (lc z : Nat) (hz : z < 256) : (lc * 256 + z) % 65536 / 64 % 64 = lc % 256 % 16 * 4 + z / 64 := by omega
theorem stp4 (lc z : Nat) : (lc * 256 + z) % 65536 % 64 = z % 64 := by
  rw [Nat.mod_mod_of_dvd _ (by decide), show lc * 256 = 64 * (lc * 4) from (Nat.mul_left_comm 64 lc 4).symm, Nat.mul_add_mod]
theorem b64_three (x y z : Nat) (hx : x < 256) (hy : y < 256) (hz : z < 256) (l : List Nat) (lc : Nat) : ∃ lc', b64go (x :: y :: z :: l) lc 0 = (x / 4 :: (x % 4 * 16 + y / 16) :: (y % 16 * 4 + z / 64) :: z % 64 :: (b64go l lc' 0).1, (b64go l lc' 0).2) := by
  refine ⟨(((lc * 256 + x) % 65536 * 256 + y) % 65536 * 256 + z) % 65536, ?_⟩
  simp only [b64go, Nat.zero_add, b64in_8, b64in_10, b64in_12, show 2 + 8 = 10 by decide, show 4 + 8 = 12 by decide, List.cons_append, List.nil_append]
  rw [stp1 _ _ hx, stp2 _ _ hy, stp3 _ _ hz, stp4, stp_mod _ _ hx, stp_mod _ _ hy]
theorem b64_six (x y z x' y' z' : Nat) (hx : x < 256) (hy : y < 256) (hz : z < 256) (hx' : x' < 256) (hy' : y' < 256) (hz' : z' < 256) :
    ∃ q, b64go [x, y, z, x', y', z'] 0 0 = ([x / 4, x % 4 * 16 + y / 16, y % 16 * 4 + z / 64, z % 64, x' / 4, x' % 4 * 16 + y' / 16, y' % 16 * 4 + z' / 64, z' % 64], q, 0) := by
  obtain ⟨l1, h1⟩ := b64_three x y z hx hy hz [x', y', z'] 0
  obtain ⟨l2, h2⟩ := b64_three x' y' z' hx' hy' hz' [] l1
  rw [h1, h2]
  exact ⟨l2, rfl⟩

noncomputable def octU (l : List Int) : List UInt8 := (octs (packed l 0)).map fun n => n.toNat.toUInt8
theorem u8_nat {n : Nat} (h : n < 256) : (((n : Int).toNat).toUInt8).toNat = n := by
  rw [Int.toNat_natCast]
  show (UInt8.ofNat n).toNat = n
  rw [UInt8.toNat_ofNat', Nat.mod_eq_of_lt h]
theorem sext {a b c d : Nat} (hb : b < 64) (hc : c < 64) (hd : d < 64) : [(a * 4 + b / 16) / 4, (a * 4 + b / 16) % 4 * 16 + (b % 16 * 16 + c / 4) / 16, (b % 16 * 16 + c / 4) % 16 * 4 + (c % 4 * 64 + d) / 64, (c % 4 * 64 + d) % 64] = [a, b, c, d] := by
  simp only [List.cons.injEq, and_true]
  refine ⟨?_, ?_, ?_, ?_⟩ <;> omega
theorem bytes_lt {a b c d : Nat} (ha : a < 64) (hb : b < 64) (hc : c < 64) (hd : d < 64) : a * 4 + b / 16 < 256 ∧ b % 16 * 16 + c / 4 < 256 ∧ c % 4 * 64 + d < 256 := by
  refine ⟨?_, ?_, ?_⟩ <;> omega
theorem nat_of {z : Int} (h : 0 ≤ z ∧ z < 64) : ∃ n : Nat, z = n ∧ n < 64 := ⟨z.toNat, by omega, by omega⟩
theorem b64_figs {l : List Int} (h8 : l.length = 8) (hl : ∀ z ∈ l, 0 ≤ z ∧ z < 64) : ∃ q, b64go ((octU l).map UInt8.toNat) 0 0 = (fgN l, q, 0) := by
  obtain ⟨a, b, c, d, e, f, g, i, rfl⟩ := eight h8
  simp only [List.mem_cons, List.not_mem_nil, or_false, forall_eq_or_imp, forall_eq] at hl
  obtain ⟨ha, hb, hc, hd, he, hf, hg, hi⟩ := hl
  obtain ⟨a, rfl, ka⟩ := nat_of ha
  clear ha
  obtain ⟨b, rfl, kb⟩ := nat_of hb
  clear hb
  obtain ⟨c, rfl, kc⟩ := nat_of hc
  clear hc
  obtain ⟨d, rfl, kd⟩ := nat_of hd
  clear hd
  obtain ⟨e, rfl, ke⟩ := nat_of he
  clear he
  obtain ⟨f, rfl, kf⟩ := nat_of hf
  clear hf
  obtain ⟨g, rfl, kg⟩ := nat_of hg
  clear hg
  obtain ⟨i, rfl, ki⟩ := nat_of hi
  clear hi
  obtain ⟨l1, l2, l3⟩ := bytes_lt ka kb kc kd
  obtain ⟨l4, l5, l6⟩ := bytes_lt ke kf kg ki
  unfold octU
  rw [octets_of a b c d e f g i ka kb kc kd ke kf kg ki]
  simp only [List.map_cons, List.map_nil]
  rw [u8_nat l1, u8_nat l2, u8_nat l3, u8_nat l4, u8_nat l5, u8_nat l6]
  obtain ⟨q, hq⟩ := b64_six _ _ _ _ _ _ l1 l2 l3 l4 l5 l6
  have s1 := sext (a := a) kb kc kd
  have s2 := sext (a := e) kf kg ki
  simp only [List.cons.injEq, and_true] at s1 s2
  obtain ⟨a1, a2, a3, a4⟩ := s1
  obtain ⟨a5, a6, a7, a8⟩ := s2
  rw [a1, a2, a3, a4, a5, a6, a7, a8] at hq
  exact ⟨q, hq⟩
end TL
end
/-! ### TPa -/
section
open PySem PyProof.Rows
namespace TL
section
variable {P : Pm} {k : Nat}

theorem lay_join : ∀ a : List Nat, a ≠ [] → joinN 47 (a.map fun c => [c]) ++ [47] = lay a
  | [], h => absurd rfl h
  | [c], _ => rfl
  | c :: d :: r, _ => by
    have ih := lay_join (d :: r) (by simp)
    rw [lay_cons, ← ih]
    rfl
theorem ev_cat2 {c : Cx} {σ : Sg} {e : Expr} {a b : Str} (q : a = b) (H : EvOK c σ e (.str a)) : EvOK c σ e (.str b) := q ▸ H

/-- what comes behind the loop that writes both words -/
theorem law_mid (H : PmOK P) {d : Df} (h : (defsOf pw)[18]? = some d) {A : Around} {L a' : Addr} {cdv : Value} {cells : List (Str × Addr)} {s : Shared} {N : Addr → Prop} (O : Cx.Ok ⟨P.prog, P.w, A, fenv d L a' cdv cells, s, N⟩ P (k + 4)) (hmu : N sysModules)
    {a b : List Nat} {X Y r : List Int} (ha : ∀ c ∈ a, c ≠ 47 ∧ c ≠ 46) (hb : ∀ c ∈ b, c ≠ 47 ∧ c ≠ 46) (hal : 1 ≤ a.length ∧ a.length ≤ 8) (hbl : 1 ≤ b.length ∧ b.length ≤ 8) (hX : X.length = 8) (hY : Y.length = 8) (hF : Fits a b X Y) (hr : r.length ≤ 63) :
    ExOK ⟨P.prog, P.w, A, fenv d L a' cdv cells, s, N⟩ [("rows", .own (.list [.list (intsT X), .list (intsT Y)])), ("words", .own (.list (strsT [a, b]))), ("row", .tree (.list (intsT r)))] (d.body.drop 6) (fun f => f = .ret (.bool true)) := by
  cases h
  have h200 : (200 : Nat) ≤ sizeLine := by decide
  have an : a ≠ [] := fun z => by rw [z] at hal; simp at hal
  have bn : b ≠ [] := fun z => by rw [z] at hbl; simp at hbl
  refine ex_freeze (x := "rows") (t := .list [.list (intsT X), .list (intsT Y)]) rfl ?_
  refine ex_freeze (x := "words") (t := .list (strsT [a, b])) rfl ?_
  refine ex_cons (st_unpack2 O (t := .str (S a)) (u := .str (S b)) (.inl rfl) (.inl rfl) (up_list O (ev_name O rfl)) ?_)
  refine ex_cons (st_swap2 O (t := .list (strsT (waysOf a))) (u := .list (strsT (waysOf b))) (.inl rfl) (.inl rfl) (up_tuple O (ev_tuple (args_cons'
      (ev_call O (H.mem (i := 16) rfl) rfl (args_cons' (ev_name O rfl) args_nil') (ways_ok H (h := rfl) (fun c hc => (ha c hc).1) hal.2)) (args_cons'
      (ev_call O (H.mem (i := 16) rfl) rfl (args_cons' (ev_name O rfl) args_nil') (ways_ok H (h := rfl) (fun c hc => (hb c hc).1) hbl.2)) args_nil')) (by show 2 ≤ sizeLine; decide))) ?_)
  have way0 : ∀ z : List Nat, (strsT (waysOf z))[((0 : Int)).toNat]? = some (.str (S (lay z))) := fun z => by
    simp [strsT, waysOf]
  have sl : ∀ z : List Nat, z ≠ [] → (S (joinN 47 (z.map fun c => [c])) ++ S [47]) = S (lay z) := fun z hz => by rw [S_append, lay_join z hz]
  have jl : ∀ z : List Nat, z.length ≤ 8 → (S (joinN 47 (z.map fun c => [c]))).length + (S [47]).length ≤ sizeLine := fun z hz => by
    rw [len_S, len_S, show (z.map fun c => [c]) = sgl z from rfl, joinN_sgl_len]; simp; (first | lia | omega)
  refine ex_cons (st_if (b := false) (ts_cmp (a := .list (([S (lay a), S (lay b)] : List Str).map .str)) (b := .list (([S (lay a), S (lay b)] : List Str).map .str))
      (args_new (args_cons' (ev_item_list (ev_name O rfl).rd ev_int (by decide) (by decide) (way0 a) (fun _ _ => rfl)) (args_cons' (ev_item_list (ev_name O rfl).rd ev_int (by decide) (by decide) (way0 b) (fun _ _ => rfl)) args_nil')) (by show 2 ≤ sizeLine; decide)).ok
      (args_new (args_cons' (ev_cat2 (sl a an) (ev_cat (ev_meth ev_str m_join (args_cons' (ev_name O rfl) args_nil') (c_join_str O.hh (by (first | lia | omega)))) ev_slash (jl a hal.2))) (args_cons' (ev_cat2 (sl b bn) (ev_cat (ev_meth ev_str m_join (args_cons' (ev_name O rfl) args_nil') (c_join_str O.hh (by (first | lia | omega)))) ev_slash (jl b hbl.2))) args_nil')) (by show 2 ≤ sizeLine; decide)).ok.rd
      (cmp_ne_same O)) (fun z => by cases z) (fun _ => ex_nil ?_))
  -- the rounds
  obtain ⟨p, hp⟩ : ∃ p : Nat, (p : Int) = ed a b := ⟨(ed a b).toNat, by have := ed_nonneg a b; (first | lia | omega)⟩
  have htop := ed_top a b
  have hp16 : p ≤ 2 * max a.length b.length := by (first | lia | omega)
  have hBIG : (p : Int) < BIG := by unfold BIG; (first | lia | omega)
  have hstop : stopAt a b X Y p := (stop_iff hF p).mpr (by (first | lia | omega))
  have hmin : ∀ q < p, ¬ stopAt a b X Y q := fun q hq z => by
    have := (stop_iff hF q).mp z
    (first | lia | omega)
  refine ex_cons (st_unpack2 O (t := .int (p : Nat)) (u := dT (nowOf a b X Y p)) (.inl rfl) (.inl rfl) (up_tuple O (ev_call O (H.mem (i := 17) rfl) rfl (args_cons' (ev_item_list (ev_name O rfl).rd ev_int (by decide) (by decide) rfl (fun _ _ => rfl)) (args_cons' (ev_item_list (ev_name O rfl).rd ev_int (by decide) (by decide) rfl (fun _ _ => rfl)) (args_cons' (ev_name O rfl) (args_cons' (ev_name O rfl) args_nil'))))
    (rounds_ok H (h := rfl) ha hb hal.2 hbl.2 hX hY hp16 hstop hmin))) ?_)
  have t1 : levFn a b p = p := ((lev_told hBIG).eq (Int.le_of_eq hp.symm)).trans hp.symm
  have hc : ed b a = p := (ed_comm _ b a (Nat.le_refl _)).trans hp.symm
  have t2 : levFn b a p = p := ((lev_told hBIG).eq (Int.le_of_eq hc)).trans hc
  have t3 : levFn a b ((p : Int) - 1) = p := (lev_told (Int.lt_trans (Int.sub_lt_self _ (by decide)) hBIG)).pred hp.symm
  refine ex_cons (st_for_c (W := Unit) O (fun _ => [("price", .tree (.int (p : Nat))), ("now", .tree (dT (nowOf a b X Y p))), ("a", .tree (.str (S a))), ("b", .tree (.str (S b))), ("row", .tree (.list (intsT r)))]) (fun _ _ => True) (.inl rfl)
    (ito_tuple (ts := intsT [(p : Int), (p : Int), (p : Int)]) (ev_tuple (args_cons' (ev_ieq t1 (ev_call O (H.mem (i := 2) rfl) rfl (args_cons' (ev_name O rfl) (args_cons' (ev_name O rfl) (args_cons' (ev_name O rfl) args_nil'))) (lev_ok H (h := rfl) hal.2 hbl.2)))
      (args_cons' (ev_ieq t2 (ev_call O (H.mem (i := 2) rfl) rfl (args_cons' (ev_name O rfl) (args_cons' (ev_name O rfl) (args_cons' (ev_name O rfl) args_nil'))) (lev_ok H (h := rfl) hbl.2 hal.2)))
      (args_cons' (ev_ieq t3 (ev_call O (H.mem (i := 2) rfl) rfl (args_cons' (ev_name O rfl) (args_cons' (ev_name O rfl) (args_cons' (ev_sub (ev_name O rfl) ev_int) args_nil'))) (lev_ok H (h := rfl) hal.2 hbl.2))) args_nil'))) (by show 3 ≤ sizeLine; decide)))
    () trivial (sub_cons rfl (sub_cons rfl (sub_cons rfl (sub_cons rfl (sub_cons rfl sub_nil))))) ?_ ?_)
  · rintro i t _ ht _
    have hi : i < 3 := by
      have := (List.getElem?_eq_some_iff.mp ht).1
      simpa [intsT] using this
    have htt : t = .int p := by
      match i, hi with
      | 0, _ => exact (Option.some.inj ht).symm
      | 1, _ => exact (Option.some.inj ht).symm
      | 2, _ => exact (Option.some.inj ht).symm
    subst htt
    have hne : (((p : Int) != p) || (false || false)) = false := by simp
    refine ex_cons (st_if (b := false) (ts_eq hne (ts_bool (all_or (ts_cmp (ev_name O rfl) (ev_name O rfl).rd cmp_ne) fun _ => all_or (ts_value (ev_call_builtin O (b_isinstance H) (args_cons' (ev_name O rfl) (args_cons' (ev_type O (H.blt _ (by decide)) rfl) args_nil')) c_isi_int_bool).rd tr_bool) fun _ => all_or_nil))) (fun z => by cases z) (fun _ => ex_nil (ex_nil ⟨(), trivial, ?_⟩)))
    exact sub_cons rfl (sub_cons rfl (sub_cons rfl (sub_cons rfl (sub_cons rfl sub_nil))))
  rintro σ' _ _ hS
  refine ex_to hS ?_
  clear hS
  have hak := ak_now a b X Y p
  have hdl : (ak (nowOf a b X Y p)).length ≤ 40 ∧ 0 < (ak (nowOf a b X Y p)).length := by
    rw [hak]; unfold diags loD hiD
    rw [List.length_map, List.length_range]; (first | lia | omega)
  refine ex_cons (st_assign_new O (new_list_dict O (b_list H) (ev_name O rfl) hmu (by (first | lia | omega))) ?_)
  refine ex_freeze (x := "diagonals") (t := .list (intsT (ak (nowOf a b X Y p)))) rfl ?_
  have hm0 : 0 ≤ ((r.length : Int).fmod ((ak (nowOf a b X Y p)).length : Int)) := Int.fmod_nonneg_of_pos _ (by (first | lia | omega))
  have hm1 : ((r.length : Int).fmod ((ak (nowOf a b X Y p)).length : Int)) < ((ak (nowOf a b X Y p)).length : Int) := Int.fmod_lt_of_pos _ (by (first | lia | omega))
  obtain ⟨dd, hdd⟩ : ∃ dd, dd = (ak (nowOf a b X Y p)).getD ((r.length : Int).fmod ((ak (nowOf a b X Y p)).length : Int)).toNat 0 := ⟨_, rfl⟩
  have hin : dd ∈ ak (nowOf a b X Y p) := by
    rw [hdd, List.getD_eq_getElem?_getD, List.getElem?_eq_getElem (by (first | lia | omega))]
    exact List.getElem_mem _
  refine ex_cons (st_assign O (t := .int dd) (.inl rfl) (ev_item_list (i := ((r.length : Int).fmod ((ak (nowOf a b X Y p)).length : Int))) (ev_name O rfl).rd (ev_mod (ev_ieq ?_ (ev_call_builtin O (b_len H) (args_cons' (ev_name O rfl) args_nil') (c_len_list (by rw [intsT_len]; (first | lia | omega)))))
    (ev_ieq ?_ (ev_call_builtin O (b_len H) (args_cons' (ev_name O rfl) args_nil') (c_len_list (by rw [intsT_len]; (first | lia | omega))))) (by (first | lia | omega))) hm0 (by (first | lia | omega)) ?_ (fun _ _ => rfl)) ?_)
  · rw [intsT_len]
  · rw [intsT_len]
  · rw [hdd]; exact intsT_get _ _ (by (first | lia | omega))
  obtain ⟨pl, hpl⟩ := ag_some hin
  obtain ⟨i, j, hi1, hi2, hj2, hj1, hD⟩ := (now_fur hF p).snd dd pl hpl
  subst hi1
  refine ex_cons (st_assign O (t := .int (i : Nat)) (.inl rfl) (ev_item_dict (ev_name O rfl).rd (ev_name O rfl) (by rw [dget_asc, hpl]; rfl) (fun _ _ => rfl)) ?_)
  have hsA : ∀ n : Nat, strSl (S a) none (some (n : Int)) none = S (a.take n) := fun n => sl_upto a n
  have hsB : ∀ n : Nat, strSl (S b) none (some (n : Int)) none = S (b.take n) := fun n => sl_upto b n
  have lA : (S a).length ≤ sizeLine := by rw [len_S]; (first | lia | omega)
  have lB : (S b).length ≤ sizeLine := by rw [len_S]; (first | lia | omega)
  have v1 : levFn (a.take i) (b.take j) p ≤ p := by
    rw [(lev_told hBIG).eq hD]; exact hD
  have sub : ∀ {l : List Nat} (n : Nat), l.length ≤ 8 → (l.take n).length ≤ 8 := fun n hl => by rw [List.length_take]; (first | lia | omega)
  refine ex_cons (st_if (b := false) (ts_eq (decide_eq_false (by (first | lia | omega))) (ts_cmp (ev_call O (H.mem (i := 2) rfl) rfl (args_cons' (ev_cat2 (hsA i) (ev_slice_str (ev_name O rfl) part_no (part_int (ev_name O rfl)) part_no (by decide) lA (fun _ _ => ⟨_, rfl⟩)))
      (args_cons' (ev_cat2 (hsB j) (ev_slice_str (ev_name O rfl) part_no (part_int (ev_ieq hj1.symm (ev_add (ev_name O rfl) (ev_name O rfl)))) part_no (by decide) lB (fun _ _ => ⟨_, rfl⟩))) (args_cons' (ev_name O rfl) args_nil')))
      (lev_ok H (h := rfl) (sub i hal.2) (sub j hbl.2))) (ev_name O rfl).rd cmp_gt)) (fun z => by cases z) (fun _ => ex_nil ?_))
  refine ex_cons (st_if (ts_bool (all_and (ts_cmp (ev_name O rfl) (ev_call_builtin O (b_len H) (args_cons' (ev_name O rfl) args_nil') (c_len_str (by rw [len_S]; (first | lia | omega)))).rd cmp_lt) fun _ => all_and (ts_cmp (ev_add (ev_name O rfl) (ev_name O rfl)) (ev_call_builtin O (b_len H) (args_cons' (ev_name O rfl) args_nil') (c_len_str (by rw [len_S]; (first | lia | omega)))).rd cmp_lt) fun _ => all_and_nil)) (fun q => ?_) fun _ => ex_nil ?_)
  · simp only [Bool.and_true, Bool.and_eq_true, decide_eq_true_eq, len_S] at q
    have hgt : (p : Int) < Dd a b (i + 1) (j + 1) := by
      by_cases z : Dd a b (i + 1) (j + 1) ≤ p
      · obtain ⟨q2, hq2, hq3⟩ := (now_fur hF p).mx (i + 1) (j + 1) (by (first | lia | omega)) (by (first | lia | omega)) z
        rw [show (((j + 1 : Nat) : Int) - ((i + 1 : Nat) : Int)) = dd by (first | lia | omega), hpl] at hq2
        cases hq2
        (first | lia | omega)
      · (first | lia | omega)
    have v2 : (p : Int) < levFn (a.take (i + 1)) (b.take (j + 1)) p := (lev_told hBIG).gt hgt
    refine ex_cons (st_return (t := .bool true) (ev_beq (decide_eq_true v2) (ev_cmp (ev_call O (H.mem (i := 2) rfl) rfl (args_cons' (ev_cat2 (hsA (i + 1)) (ev_slice_str (ev_name O rfl) part_no (part_int (ev_ieq (by (first | lia | omega)) (ev_add (ev_name O rfl) ev_int))) part_no (by decide) lA (fun _ _ => ⟨_, rfl⟩)))
      (args_cons' (ev_cat2 (hsB (j + 1)) (ev_slice_str (ev_name O rfl) part_no (part_int (ev_ieq (by (first | lia | omega)) (ev_add (ev_add (ev_name O rfl) (ev_name O rfl)) ev_int))) part_no (by decide) lB (fun _ _ => ⟨_, rfl⟩))) (args_cons' (ev_name O rfl) args_nil')))
      (lev_ok H (h := rfl) (sub (i + 1) hal.2) (sub (j + 1) hbl.2))) (ev_name O rfl).rd cmp_gt)) rfl)
  · exact ex_cons (st_return ev_bool rfl)
end
end TL
end
/-! ### TPb -/
section
open PySem PyProof.Rows
namespace TL
section
variable {P : Pm} {k : Nat}

noncomputable def lawNums (r : List Int) : List Int := [1680420 + (pickL r (some 0) none (some 2)).sum, 1679930 + (pickL r (some 1) none (some 2)).sum]
noncomputable def lawTab (r : List Int) : List Int := lawTable (lawNums r).sum
noncomputable abbrev lpT (r : List Int) (i : Nat) : Sg := [("rows", .own (.list (((lawNums r).take i).map fun n => .list (intsT (figs (lawTab r) n))))), ("words", .own (.list (strsT (((lawNums r).take i).map fun n => word (lawTab r) n)))), ("table", .tree (.list (intsT (lawTab r)))), ("signs", .tree (.str (S sgsLit))), ("row", .tree (.list (intsT r)))]

theorem pick_ints (r : List Int) (lo hi st : Option Int) : pickL (intsT r) lo hi st = intsT (pickL r lo hi st) := pickL_map _ _ _ _ _
theorem sgs_get {z : Int} (h : 0 ≤ z ∧ z < 63) : sgsLit.getD z.toNat 0 = sg z.toNat := by
  rw [sg_eq (by (first | lia | omega))]
  unfold sgsLit
  rw [List.getD_eq_getElem?_getD, List.getElem?_map, List.getElem?_range (by (first | lia | omega))]; rfl
noncomputable def wbytes (l : List Int) : List UInt8 := (fgN l).map fun i => b64L.getD i 0
theorem wbytes_nat (l : List Int) : (wbytes l).map (fun x => x.toNat) = l.map fun f => sg f.toNat := by
  unfold wbytes fgN sg
  rw [List.map_map, List.map_map]; rfl
theorem wbytes_enc (l : List Int) : (l.map fun f => sg f.toNat).map (fun x => x.toUInt8) = wbytes l := by
  rw [← wbytes_nat, List.map_map]
  refine Eq.trans ?_ (List.map_id _)
  refine List.map_congr_left fun x _ => ?_
  show UInt8.ofNat x.toNat = x
  exact UInt8.ofNat_toNat
theorem flat_one (l : List Nat) : (l.map fun c => [c]).flatten = l := by
  induction l with
  | nil => rfl
  | cons x l ih => simp [ih]

noncomputable def sgnT (t : Tr) : Option Tr := match t with | .int i => some (Tr.str (S [sgsLit.getD i.toNat 0])) | _ => none
theorem sgs_join : ∀ fl : List Int, (∀ z ∈ fl, 0 ≤ z ∧ z < 63) → (intsT fl).filterMap sgnT = strsT ((fl.map fun f => sg f.toNat).map fun c => [c])
  | [], _ => rfl
  | z :: fl, h => by
    have ih := sgs_join fl fun z hz => h z (List.mem_cons_of_mem _ hz)
    show (Tr.int z :: intsT fl).filterMap sgnT = Tr.str (S [sg z.toNat]) :: strsT ((fl.map fun f => sg f.toNat).map fun c => [c])
    rw [← ih, ← sgs_get (h z List.mem_cons_self)]
    rfl

theorem law_turn (H : PmOK P) {d : Df} (h : (defsOf pw)[18]? = some d) {A : Around} {L a' : Addr} {cdv : Value} {cells : List (Str × Addr)} {s : Shared} {N : Addr → Prop} (O : Cx.Ok ⟨P.prog, P.w, A, fenv d L a' cdv cells, s, N⟩ P (k + 4)) {r : List Int} (hr : r.length ≤ 63) :
    ∀ (body : List Stmt) (x : Expr) (it : Expr) (oe : List Stmt) (pos : Pos), d.body[5]? = some (.For x it body oe pos) → ∀ (i : Nat) (n : Int) (Φ : Fl → Prop), (lawNums r)[i]? = some n → (∀ σ', Sub (lpT r (i + 1)) σ' → Φ (.next σ')) →
    ExOK ⟨P.prog, P.w, A, fenv d L a' cdv cells, s, N⟩ (("number", .tree (.int n)) :: lpT r i) body Φ := by
  cases h
  intro body x it oe pos hb
  cases hb
  intro i n Φ hn hΦ
  have h200 : (200 : Nat) ≤ sizeLine := by decide
  have hi2 : i < 2 := (List.getElem?_eq_some_iff.mp hn).1
  have hl8 : (figs (lawTab r) n).length = 8 := figs_len _ _
  have hlow : ∀ z ∈ figs (lawTab r) n, 0 ≤ z ∧ z < 63 := figs_low _ _
  have htl : (lawTab r).length = 6 := table_len _
  refine ex_cons (st_assign_comp O [("number", .tree (.int n)), ("table", .tree (.list (intsT (lawTab r))))] (fun t => match t with | .int i => some (.int ((lawTab r).getD ((n.fdiv (6 ^ i.toNat)).fmod 6).toNat 0)) | _ => none)
    (ito_range1 (n := 8) O (b_range H) ev_int (by decide)) ⟨⟨_, rfl⟩, rfl, rfl, .inl rfl, ⟨_, rfl⟩, rfl, rfl, .inl rfl, trivial⟩ ?_ (by decide) ?_)
  · intro t ht cl C s N O'
    simp only [intsT, rng, List.mem_map, List.mem_range] at ht
    obtain ⟨_, ⟨j, hj, rfl⟩, rfl⟩ := ht
    have hdg := digit n ((0 : Int) + (j : Int) * 1).toNat
    refine .inr ⟨_, rfl, tests_nil, ?_⟩
    refine ev_item_list (ev_name O' rfl).rd (ev_mod (ev_floordiv (ev_name O' rfl) (ev_pow ev_int (ev_name O' rfl) (by (first | lia | omega)) ?_) ?_ ?_) ev_int (by decide)) hdg.1 (by (first | lia | omega)) (intsT_get _ _ (by rw [htl]; (first | lia | omega))) (fun _ _ => rfl)
    · rw [show Builtin.Int.intBits 6 = 3 by decide]; (first | lia | omega)
    · exact Int.ne_of_gt (Int.pow_pos (by decide))
    · refine PyProof.noPylong_of_log2 ?_
      have : ∀ j : Fin 8, ((6 : Int) ^ ((0 : Int) + ((j : Nat) : Int) * 1).toNat).natAbs.log2 < 9000 := by decide +kernel
      exact this ⟨j, hj⟩
  refine ex_freeze (x := "figures") (t := .list (intsT (figs (lawTab r) n))) rfl ?_
  obtain ⟨fl, hfl⟩ : ∃ fl, fl = figs (lawTab r) n := ⟨_, rfl⟩
  rw [← hfl] at hl8 hlow ⊢
  obtain ⟨q, hq⟩ := b64_figs hl8 (fun z hz => ⟨(hlow z hz).1, by have := (hlow z hz).2; (first | lia | omega)⟩)
  have hz : (b64go ((octU fl).map UInt8.toNat) 0 0).2.2 = 0 := by rw [hq]
  have hs : (b64go ((octU fl).map UInt8.toNat) 0 0).1.length ≤ 100 := by rw [hq]; show (fgN fl).length ≤ 100; unfold fgN; rw [List.length_map]; (first | lia | omega)
  have hres : Tr.bytes (((b64go ((octU fl).map UInt8.toNat) 0 0).1.map fun i => b64L.getD i 0).toArray) = .bytes (wbytes fl).toArray := by rw [hq]; rfl
  refine ex_cons (st_assign O (t := .bytes (wbytes fl).toArray) (.inl rfl) (ev_teq hres (ev_call O (H.mem (i := 6) rfl) rfl (args_cons' (t := .bytes (octU fl).toArray) (ev_call O (H.mem (i := 15) rfl) rfl (args_cons' (ev_name O rfl) args_nil') (octets_ok H (h := rfl))) args_nil') (b64encode_ok H (h := rfl) hz hs))) ?_)
  -- the writing is the signs
  have hjoin : (intsT fl).filterMap sgnT = strsT ((fl.map fun f => sg f.toNat).map fun c => [c]) := by
    exact sgs_join fl hlow
  have hsl : (fl.map fun f => sg f.toNat).length = 8 := by rw [List.length_map, hl8]
  have hsum : ((((fl.map fun f => sg f.toNat).map fun c => [c]).map (·.length)).sum + ((fl.map fun f => sg f.toNat).map fun c => [c]).length) ≤ 1000 := by
    rw [sgl_lens]; simp only [List.length_map]; (first | lia | omega)
  have h128 : ∀ x ∈ (fl.map fun f => sg f.toNat), x < 128 := fun x hx => by
    obtain ⟨f, hf, rfl⟩ := List.mem_map.mp hx
    have := hlow f hf
    exact (sg_plain (by (first | lia | omega))).2.2
  have hsame : ((wbytes fl).toArray.toList != ((fl.map fun f => sg f.toNat).map fun x => x.toUInt8).toArray.toList) = false := by
    rw [wbytes_enc]; simp
  have hname : ∀ {c : Cx} {σ : Sg} {e : Expr}, EvOK c σ e (.str "ABCDEFGHIJKLMNOPQRSTUVWXYZabcdefghijklmnopqrstuvwxyz0123456789+") → EvOK c σ e (.str (S sgsLit)) := fun x => ev_seq signs_lit x
  refine ex_cons (st_if (b := false) (ts_eq hsame (ts_cmp (ev_name O rfl) (ev_meth (ev_seq (congrArg S (flat_one _)) (ev_meth ev_str m_join (args_cons' (ev_teq (congrArg Tr.list hjoin) (new_comp O [("signs", .tree (.str (S sgsLit)))] sgnT
      (ito_list (ev_name O rfl)) ⟨⟨_, rfl⟩, rfl, rfl, .inl rfl, trivial⟩ ?_ (by rw [intsT_len]; (first | lia | omega))).ok) args_nil') (c_join_none hsum))) m_encode (args_cons' ev_str args_nil') (c_encode (by (first | lia | omega)) (by (first | lia | omega)) h128)).rd cmp_neb)) (fun z => by cases z) (fun _ => ex_nil ?_))
  · intro t ht cl C s N O'
    simp only [intsT, List.mem_map] at ht
    obtain ⟨z, hz', rfl⟩ := ht
    have hzl := hlow z hz'
    refine .inr ⟨_, rfl, tests_nil, ?_⟩
    have hlit : sgsLit.length = 63 := by decide
    have e : Txt.item (S sgsLit) z = S [sgsLit.getD z.toNat 0] := by
      have := item_nat sgsLit z.toNat (by (first | lia | omega))
      rw [show ((z.toNat : Nat) : Int) = z by (first | lia | omega)] at this
      exact this
    exact ev_seq e (ev_item_str (ev_name O' rfl) (ev_name O' rfl) (by (first | lia | omega)) (by rw [len_S, hlit]; (first | lia | omega)) (by rw [len_S, hlit]; (first | lia | omega)) (fun _ _ => rfl) (fun _ _ => rfl))
  refine ex_cons (st_append O (ts := ((lawNums r).take i).map fun n => .list (intsT (figs (lawTab r) n))) rfl (ev_name O rfl) (by rw [List.length_map, List.length_take]; (first | lia | omega)) ?_)
  obtain ⟨b0, bs, hbs⟩ : ∃ b0 bs, wbytes fl = b0 :: bs := by
    cases e : wbytes fl with
    | nil =>
      have := congrArg List.length (wbytes_nat fl)
      rw [e, hsl] at this; cases this
    | cons b0 bs => exact ⟨b0, bs, rfl⟩
  have hwl : (b0 :: bs).map (fun x => x.toNat) = fl.map fun f => sg f.toNat := by rw [← hbs]; exact wbytes_nat fl
  have hb8 : (b0 :: bs).length = 8 := by
    have := congrArg List.length hwl
    rw [List.length_map, hsl] at this; exact this
  have hb128 : ∀ x ∈ b0 :: bs, x.toNat < 128 := fun x hx => h128 _ (hwl ▸ List.mem_map_of_mem hx)
  have hw3 : (3 : Int) + (n.fdiv 1679616).fmod 4 = ((wlen n : Nat) : Int) := by
    have h1 := Int.fmod_nonneg_of_pos (n.fdiv 1679616) (b := 4) (by decide)
    unfold wlen; (first | lia | omega)
  have hword : S ((fl.map fun f => sg f.toNat).take (wlen n)) = S (word (lawTab r) n) := by rw [hfl]; rfl
  refine ex_cons (st_append O (x := "words") (t := .str (S (word (lawTab r) n))) (ts := strsT (((lawNums r).take i).map fun n => word (lawTab r) n)) rfl
    (ev_seq hword (ev_seq (sl_upto _ (wlen n)) (ev_slice_str (lo := none) (hi := some ((wlen n : Nat) : Int)) (st := none) (ev_seq (congrArg S hwl) (ev_meth (ev_teq (by rw [hbs]) (ev_name O rfl)) m_decode (args_cons' ev_str args_nil') (c_decode (b := b0) (bs := bs) (by (first | lia | omega)) hb128)))
      part_no (part_int (ev_ieq hw3 (ev_add ev_int (ev_mod (ev_floordiv (ev_name O rfl) ev_int (by decide) (np (by decide))) ev_int (by decide))))) part_no (by decide) (by rw [len_S, hsl]; (first | lia | omega)) (fun _ _ => ⟨_, rfl⟩)))) (by rw [strsT_len, List.length_map, List.length_take]; (first | lia | omega)) ?_)
  refine ex_nil (hΦ _ ?_)
  have htk : (lawNums r).take (i + 1) = (lawNums r).take i ++ [n] := by rw [List.take_add_one, hn]; rfl
  have e1 : (((lawNums r).take (i + 1)).map fun n => Tr.list (intsT (figs (lawTab r) n))) = (((lawNums r).take i).map fun n => Tr.list (intsT (figs (lawTab r) n))) ++ [.list (intsT fl)] := by
    rw [htk, List.map_append, hfl]; rfl
  have e2 : strsT (((lawNums r).take (i + 1)).map fun n => word (lawTab r) n) = strsT (((lawNums r).take i).map fun n => word (lawTab r) n) ++ [.str (S (word (lawTab r) n))] := by
    rw [htk]; unfold strsT; rw [List.map_append, List.map_append]; rfl
  unfold lpT
  rw [e1, e2]
  exact sub_cons rfl (sub_cons rfl (sub_cons rfl (sub_cons rfl (sub_cons rfl sub_nil))))
end
end TL
end
/-! ### TPc -/
section
open PySem PyProof.Rows
namespace TL
section
variable {P : Pm} {k : Nat}

theorem law_rest (H : PmOK P) {d : Df} (h : (defsOf pw)[18]? = some d) {A : Around} {L a' : Addr} {cdv : Value} {cells : List (Str × Addr)} {s : Shared} {N : Addr → Prop} (O : Cx.Ok ⟨P.prog, P.w, A, fenv d L a' cdv cells, s, N⟩ P (k + 4)) (hmu : N sysModules)
    (hcell : ∀ x, d.scope.names.lookup x = some .cell → ∃ a, Cx.ownCell ⟨P.prog, P.w, A, fenv d L a' cdv cells, s, N⟩ x a) {r : List Int} (hr : r.length ≤ 63) :
    ExOK ⟨P.prog, P.w, A, fenv d L a' cdv cells, s, N⟩ [("row", .own (.list (intsT r)))] (d.body.drop 1) (fun f => f = .ret (.bool true)) := by
  have turn := fun body x it oe pos hb i n Φ hn hΦ => law_turn H h O hr body x it oe pos hb i n Φ hn hΦ
  have mid := @law_mid P k H d h A L a' cdv cells s N O hmu
  cases h
  have h200 : (200 : Nat) ≤ sizeLine := by decide
  have ct := hcell "table" rfl
  have cs' := hcell "signs" rfl
  have cn := hcell "number" rfl
  clear hcell
  refine ex_freeze (x := "row") (t := .list (intsT r)) rfl ?_
  refine ex_cons (st_assign O (t := .list (intsT (lawNums r))) (.inl rfl) (args_new (args_cons' (ev_add ev_int (ev_call_builtin O (b_sum H) (args_cons' (ev_teq (congrArg Tr.list (pick_ints r (some 0) none (some 2))) (ev_slice_list (lo := some 0) (hi := none) (st := some 2) (ev_name O rfl).rd (part_int ev_int) part_no (part_int ev_int) (by decide) (by rw [intsT_len]; (first | lia | omega)) (fun _ _ => ⟨_, rfl⟩)).ok) args_nil') (c_sum O.hh)))
    (args_cons' (ev_add ev_int (ev_call_builtin O (b_sum H) (args_cons' (ev_teq (congrArg Tr.list (pick_ints r (some 1) none (some 2))) (ev_slice_list (lo := some 1) (hi := none) (st := some 2) (ev_name O rfl).rd (part_int ev_int) part_no (part_int ev_int) (by decide) (by rw [intsT_len]; (first | lia | omega)) (fun _ _ => ⟨_, rfl⟩)).ok) args_nil') (c_sum O.hh))) args_nil')) (by show 2 ≤ sizeLine; decide)).ok ?_)
  refine ex_cons (st_assign O (t := .list (intsT (lawTab r))) (.inr ⟨rfl, ct⟩) (ev_call O (H.mem (i := 14) rfl) rfl (args_cons' (ev_call_builtin O (b_sum H) (args_cons' (ev_name O rfl) args_nil') (c_sum O.hh)) args_nil') (table_ok H (h := rfl))) ?_)
  refine ex_cons (st_assign O (t := .str (S sgsLit)) (.inr ⟨rfl, cs'⟩) (ev_seq signs_lit ev_str) ?_)
  refine ex_cons (st_two_news O rfl rfl (by decide) ?_)
  refine ex_cons (st_for_c (W := Nat) O (fun i => lpT r i) (fun i w => w = i) (.inr ⟨rfl, cn⟩) (ito_list (ts := intsT (lawNums r)) (ev_name O rfl)) 0 rfl (sub_cons rfl (sub_cons rfl (sub_cons rfl (sub_cons rfl (sub_cons rfl sub_nil))))) ?_ ?_)
  · rintro i t w ht rfl
    obtain ⟨n, hn, rfl⟩ : ∃ n, (lawNums r)[w]? = some n ∧ t = .int n := by
      unfold intsT at ht
      rw [List.getElem?_map] at ht
      cases e : (lawNums r)[w]? with
      | none => rw [e] at ht; cases ht
      | some n => rw [e] at ht; exact ⟨n, rfl, (Option.some.inj ht).symm⟩
    exact turn _ _ _ _ _ rfl w n _ hn fun σ' hS => ⟨w + 1, rfl, hS⟩
  · rintro σ' w rfl hS
    have h2 : (lawNums r).take (intsT (lawNums r)).length = lawNums r := by rw [intsT_len, List.take_length]
    obtain ⟨n1, n2, hnn⟩ : ∃ n1 n2, lawNums r = [n1, n2] := ⟨_, _, rfl⟩
    unfold lpT at hS
    rw [h2] at hS
    rw [hnn] at hS
    have htab : lawTab r = lawTable (lawNums r).sum := rfl
    have w1 := wlen_bd n1
    have w2 := wlen_bd n2
    refine ex_to (sub_trans (σ := [("rows", .own (.list [.list (intsT (figs (lawTab r) n1)), .list (intsT (figs (lawTab r) n2))])), ("words", .own (.list (strsT [word (lawTab r) n1, word (lawTab r) n2]))), ("row", .tree (.list (intsT r)))]) (sub_cons rfl (sub_cons rfl (sub_cons rfl sub_nil))) hS) ?_
    exact mid (a := word (lawTab r) n1) (b := word (lawTab r) n2) (word_plain _ _) (word_plain _ _) (by rw [word_len]; (first | lia | omega)) (by rw [word_len]; (first | lia | omega)) (figs_len _ _) (figs_len _ _) (word_fits _ _ _) hr

/-- row = script[:63], from the script's own object -/
theorem row_first {c : Cx} (O : c.Ok P k) {x y : Str} {px py p1 p2 pos : Pos} {k1 : Nat} {a : Addr} {vs : List Value} {ns : List Int} (hl : c.s0.heap.IsList a vs.toArray) (hI : IntsAre vs ns) (hn : ns.length ≤ 63) {s : Shared} {m : Str → Option Value} {α : Str → Addr} (B : Bd c [] m α s.heap) (X : Holds c s.heap m y (.ref a))
    {rest : List Stmt} {Φ : Fl → Prop} (Y : ExOK c [(x, .own (.list (intsT ns)))] rest Φ) (hk : c.env.kindOf x = some .local := by rfl)
    (hw : swapsWith (.Subscript (.Name y py) (.Slice none (some (.Constant (.int 63) k1 p1)) none p2) pos) (some (.Name x px)) pos.line c.env = pure false := by rfl)
    (hs : ∀ o i, ∃ ops, subscripted (.Slice none (some (.Constant (.int 63) k1 p1)) none p2) false o i = operate ops (getItem o i) := by exact fun _ _ => ⟨_, rfl⟩)
    (hd : (y == ("__debug__" : Str)) = false := by decide) (hd' : (y == ("__classdict__" : Str)) = false := by decide) :
    wpAny (model c.prog c.w) c.A (execs (.Assign [.Name x px] (.Subscript (.Name y py) (.Slice none (some (.Constant (.int 63) k1 p1)) none p2) pos) pos :: rest) c.env) (Post c [] α s Φ) (fun _ _ => False) s := by
  have h200 : (200 : Nat) ≤ sizeLine := by decide
  have hlen : vs.length = ns.length := by
    have := (rts_of_ints (h := s.heap) (N := fun _ => False) hI).length
    rw [this, intsT_len]
  have hsz : vs.toArray.size ≤ sizeLine := by rw [List.size_toArray, hlen]; (first | lia | omega)
  have E : wpAny (model c.prog c.w) c.A (eval (.Subscript (.Name y py) (.Slice none (some (.Constant (.int 63) k1 p1)) none p2) pos) c.env)
      (fun v s' => Kp s s' ∧ ∃ b, v = .ref b ∧ s.heap.get? b = none ∧ OR s'.heap (fun z => Mut c [] α z ∨ z = b) b (.list (intsT ns))) (fun _ _ => False) s := by
    refine Subscript_ (wpAny_Name (loadName_of O B X ?_ hd') hd)
    refine wpAny_Slice (wpAny_mono (part_no (σ := []) s m α B) (fun vl s₂ h₂ => ?_) fun _ _ x => x.elim)
    obtain ⟨K₂, pl⟩ := h₂
    have B₂ := B.keeps K₂.heap
    refine wpAny_mono (part_int (σ := []) ev_int s₂ m α B₂) (fun vu s₃ h₃ => ?_) fun _ _ x => x.elim
    obtain ⟨K₃, pu⟩ := h₃
    have B₃ := B₂.keeps K₃.heap
    refine wpAny_mono (part_no (σ := []) s₃ m α B₃) (fun vst s₄ h₄ => ?_) fun _ _ x => x.elim
    obtain ⟨K₄, ps⟩ := h₄
    obtain ⟨ops, ho⟩ := hs (.ref a) (.ref s₄.heap.objs.size)
    have K₁₄ := (K₂.trans' K₃).trans' K₄
    have hl' : (s₄.heap.push { cls := .type "slice", data := .fields #[vl, vu, vst] }).IsList a vs.toArray := by
      obtain ⟨o, ho, h1⟩ := hl
      exact ⟨o, Heap.get?_push_of_some _ (K₁₄.heap _ _ (B.keep _ _ ho)), h1⟩
    refine tail_any (T := "list") hl'.typeIs slot_list_getitem.lookup (wpAny_getItem_list_slice hl' (Heap.IsSliceOf.new ..) pl pu ps (by decide) ?_ hsz) ho
    have hgt : ∀ b o, s.heap.get? b = some o → s₄.heap.get? b = some o := K₁₄.heap
    refine ⟨K₁₄.trans' ⟨_, s₄.toks, rfl, fun b o e => Heap.get?_push_of_some _ (Heap.get?_push_of_some _ e)⟩, _, rfl, ?_, ?_⟩
    · rw [Heap.size_push]
      cases q : s.heap.get? (s₄.heap.objs.size + 1) with
      | none => rfl
      | some o => exact absurd (Nat.lt_of_succ_lt (Heap.lt_size (hgt _ _ q))) (Nat.lt_irrefl _)
    · refine ⟨(slicePick vs.toArray none (some 63) none).toList, 0, ?_, ?_⟩
      · simpa using Heap.get?_push_size (s₄.heap.push { cls := .type "slice", data := .fields #[vl, vu, vst] }) (o := { cls := .type "list", data := .seq (slicePick vs.toArray none (some 63) none) }) rfl
      · have R : ∀ (h : Heap) (M : Addr → Prop), RTs h M (intsT ns) vs := fun h M => rts_of_ints hI
        have Z : ∀ (h : Heap) (M : Addr → Prop), RTs h M (intsT ns) (slicePick vs.toArray none (some 63) none).toList := fun h M => by
          have := (R h M).pick none (some 63) none
          rw [pick_ints, show (some (63 : Int)) = some ((63 : Nat) : Int) from rfl, pickL_upto, List.take_of_length_le hn] at this
          exact this
        exact Z _ _
  refine wpAny_execs_cons (wpAny_Assign_Name (wpAny_mono E (fun v s₁ h₁ => ?_) fun _ _ x => x.elim) hw)
  obtain ⟨K, b, rfl, hb, R⟩ := h₁
  refine store_own O hk B K hb R fun h' tk m' α' B₂ F => ?_
  obtain ⟨h₁, tk₁, rfl, H₁⟩ := K
  exact wpAny_mono (Y _ m' α' B₂) (fun fl s₂ x => x.up ⟨h', tk, rfl⟩ F) fun _ _ x => x
end
end TL
end
/-! ### TPh -/
section
open PySem PyProof.Rows
namespace TL
open PySem.W

/-! what is seen of the defs and names when the text has run -/
structure FnSee where
  name : Str
  qual : Str
  params : Arguments
  body : List Stmt
  scope : Scope
  globals : Addr
  closure : List (Str × Addr)
  builtins : Addr
  code : Str
  dflt : Option (List Value)
noncomputable def dflSee (h : Heap) : Value → Option (Option (List Value))
  | .none => some none
  | .ref T => match h.get? T with
    | some o => (match o.data with | .seq vs _ => some (some vs.toList) | _ => none)
    | none => none
  | _ => none
noncomputable def strOf : Option Value → Option Str
  | some (.str q _) => some q
  | _ => none
noncomputable def codeSee (h : Heap) : Value → Option Str
  | .ref c => match h.get? c with
    | some o => (match o.data with | .fields vs => strOf vs[1]? | _ => none)
    | none => none
  | _ => none
theorem strOf_get {o : Option Value} {q : Str} (e : strOf o = some q) : ∃ t, o = some (.str q t) := by
  unfold strOf at e
  split at e
  · rename_i t; cases e; exact ⟨t, rfl⟩
  · cases e
noncomputable def fdSee (h : Heap) (fd : FuncData) : Option FnSee := match fd.body, codeSee h fd.code, dflSee h fd.defaults with
  | .stmts b, some q, some ds => some ⟨fd.name, fd.qualname, fd.params, b, fd.scope, fd.globals, fd.closure, fd.builtins, q, ds⟩
  | _, _, _ => none
noncomputable def fnSee (h : Heap) (n : Str) : Option FnSee := match h.nsMap mainGlobals n with
  | some (.ref a) => (match h.get? a with
    | some o => (match o.data with | .func fd => fdSee h fd | _ => none)
    | none => none)
  | _ => none
noncomputable def intSee (h : Heap) (n : Str) : Option Int := match h.nsMap mainGlobals n with
  | some (.int i _) => some i
  | _ => none
noncomputable def bytesSee (h : Heap) (n : Str) : Option (Array UInt8) := match h.nsMap mainGlobals n with
  | some (.bytes b _) => some b
  | _ => none
noncomputable def fnWant (d : Df) : FnSee := ⟨d.name, d.name, d.params, d.body, d.scope, mainGlobals, [], builtinsNs, d.name, match d.params.defaults with | [] => none | _ => some [.none]⟩
noncomputable def b64Want : Array UInt8 := "ABCDEFGHIJKLMNOPQRSTUVWXYZabcdefghijklmnopqrstuvwxyz0123456789+/".toUTF8.data.toList.toArray

noncomputable abbrev ObsT := List (Option FnSee) × (Option Int × Option Int × Option Int) × Option (Array UInt8) × List Bool
noncomputable def obsS (s : Shared) : ObsT := ((defsOf pw).map fun d => fnSee s.heap d.name, (intSee s.heap "_MOVE_COST", intSee s.heap "_CASE_COST", intSee s.heap "_MAX_STRING_SIZE"), bytesSee s.heap "_B64", bltNames.map fun x => (s.heap.nsMap mainGlobals x).isNone)
noncomputable def valS (_ : World) : ObsT := ((defsOf pw).map fun d => some (fnWant d), (some 2, some 1, some 40), some b64Want, bltNames.map fun _ => true)
structure Says (h : Heap) : Prop where
  defs : ∀ d ∈ defsOf pw, fnSee h d.name = some (fnWant d)
  move : intSee h "_MOVE_COST" = some 2
  case : intSee h "_CASE_COST" = some 1
  most : intSee h "_MAX_STRING_SIZE" = some 40
  b64 : bytesSee h "_B64" = some b64Want
  blt : ∀ x ∈ bltNames, h.nsMap mainGlobals x = none

theorem says_of (w : World) (s : Shared) (e : obsS s = valS w) : Says s.heap := by
  obtain ⟨e1, e2⟩ := Prod.mk.inj e
  obtain ⟨e2, e3⟩ := Prod.mk.inj e2
  obtain ⟨e3, e4⟩ := Prod.mk.inj e3
  obtain ⟨m1, m2⟩ := Prod.mk.inj e2
  obtain ⟨m2, m3⟩ := Prod.mk.inj m2
  exact ⟨fun d hd => List.map_inj_left.mp e1 d hd, m1, m2, m3, e3, fun x hx => Option.isNone_iff_eq_none.mp (List.map_inj_left.mp e4 x hx)⟩

section
variable {h h' : Heap} {mg : Str → Option Value}
theorem ns_is (G : h.Ns mainGlobals mg) (n : Str) : h.nsMap mainGlobals n = mg n := by
  obtain ⟨o, es, ep, ho, hd, _, hf⟩ := G
  unfold Heap.nsMap
  rw [ho]; dsimp only
  rw [hd]; exact hf n
theorem ns_keep (K : ∀ b o, h.get? b = some o → h'.get? b = some o) {o : Obj} (ho : h.get? mainGlobals = some o) (n : Str) : h'.nsMap mainGlobals n = h.nsMap mainGlobals n := by
  unfold Heap.nsMap
  rw [ho, K _ _ ho]
theorem int_get {n : Str} {i : Int} (e : intSee h n = some i) : ∃ t, h.nsMap mainGlobals n = some (.int i t) := by
  unfold intSee at e
  split at e
  · rename_i t q; cases e; exact ⟨t, q⟩
  · cases e
theorem bytes_get {n : Str} {b : Array UInt8} (e : bytesSee h n = some b) : ∃ t, h.nsMap mainGlobals n = some (.bytes b t) := by
  unfold bytesSee at e
  split at e
  · rename_i t q; cases e; exact ⟨t, q⟩
  · cases e
theorem Says.obj (S : Says h) : ∃ o, h.get? mainGlobals = some o := by
  obtain ⟨t, e⟩ := int_get S.move
  unfold Heap.nsMap at e
  split at e
  · rename_i o q; exact ⟨o, q⟩
  · cases e
theorem code_get {v : Value} {q : Str} (e : codeSee h v = some q) : h.CodeRec v q := by
  unfold codeSee at e
  split at e
  · split at e
    · rename_i c o ho
      split at e
      · rename_i vs hd
        obtain ⟨t, hv⟩ := strOf_get e
        exact ⟨_, _, _, _, rfl, ho, hd, hv⟩
      · cases e
    · cases e
  · cases e
theorem dfl_get {v : Value} {x : Option (List Value)} (e : dflSee h v = some x) : (x = none → v = .none) ∧ ∀ l, x = some l → ∃ T o n, v = .ref T ∧ h.get? T = some o ∧ o.data = .seq l.toArray n := by
  unfold dflSee at e
  split at e
  · cases e; exact ⟨fun _ => rfl, fun l z => (by cases z)⟩
  · split at e
    · rename_i T o ho
      split at e
      · rename_i vs n hd; cases e
        exact ⟨fun z => (by cases z), fun l z => (by cases z; exact ⟨_, _, n, rfl, ho, by rw [hd]⟩)⟩
      · cases e
    · cases e
  · cases e
theorem code_keep (K : ∀ b o, h.get? b = some o → h'.get? b = some o) {v : Value} {q : Str} (e : codeSee h v = some q) : codeSee h' v = some q := by
  obtain ⟨c, o, vs, t, rfl, ho, hd, hv⟩ := code_get e
  unfold codeSee
  dsimp only
  rw [K _ _ ho]; dsimp only
  rw [hd]; dsimp only
  rw [hv]; rfl
theorem dfl_keep (K : ∀ b o, h.get? b = some o → h'.get? b = some o) {v : Value} {x : Option (List Value)} (e : dflSee h v = some x) : dflSee h' v = some x := by
  obtain ⟨e1, e2⟩ := dfl_get e
  cases x with
  | none => rw [e1 rfl]; rfl
  | some l =>
    obtain ⟨T, o, n, rfl, ho, hd⟩ := e2 l rfl
    unfold dflSee
    dsimp only
    rw [K _ _ ho]; dsimp only
    rw [hd]
theorem fd_get {fd : FuncData} {x : FnSee} (e : fdSee h fd = some x) : ∃ b, fd.body = .stmts b ∧ codeSee h fd.code = some x.code ∧ dflSee h fd.defaults = some x.dflt ∧ x = ⟨fd.name, fd.qualname, fd.params, b, fd.scope, fd.globals, fd.closure, fd.builtins, x.code, x.dflt⟩ := by
  unfold fdSee at e
  split at e
  · rename_i b q ds h1 h2 h3; cases e; exact ⟨b, h1, h2, h3, rfl⟩
  · cases e
theorem fn_get {n : Str} {x : FnSee} (e : fnSee h n = some x) : ∃ a o fd, h.nsMap mainGlobals n = some (.ref a) ∧ h.get? a = some o ∧ o.data = .func fd ∧ fdSee h fd = some x := by
  unfold fnSee at e
  split at e
  · rename_i a q
    split at e
    · rename_i o ho
      split at e
      · rename_i fd hd; exact ⟨a, o, fd, q, ho, hd, e⟩
      · cases e
    · cases e
  · cases e
theorem fn_keep (K : ∀ b o, h.get? b = some o → h'.get? b = some o) {o : Obj} (hg : h.get? mainGlobals = some o) {n : Str} {x : FnSee} (e : fnSee h n = some x) : fnSee h' n = some x := by
  obtain ⟨a, o, fd, h1, h2, h3, h4⟩ := fn_get e
  obtain ⟨b, g1, g2, g3, g4⟩ := fd_get h4
  unfold fnSee
  rw [ns_keep K hg, h1]; dsimp only
  rw [K _ _ h2]; dsimp only
  rw [h3]; dsimp only
  unfold fdSee
  rw [g1, code_keep K g2, dfl_keep K g3, g4]
theorem says_keep (S : Says h) (K : ∀ b o, h.get? b = some o → h'.get? b = some o) : Says h' := by
  obtain ⟨o, hg⟩ := S.obj
  have ns := ns_keep K hg
  refine ⟨fun d hd => fn_keep K hg (S.defs d hd), ?_, ?_, ?_, ?_, fun x hx => (ns x).trans (S.blt x hx)⟩
  · unfold intSee; rw [ns]; exact S.move
  · unfold intSee; rw [ns]; exact S.case
  · unfold intSee; rw [ns]; exact S.most
  · unfold bytesSee; rw [ns]; exact S.b64

variable {w : World}
theorem pm_of (S : Says h) (G : h.Ns mainGlobals mg) : PmOK ⟨pw, w, mg, defsOf pw⟩ where
  defs := rfl
  move := let ⟨t, e⟩ := int_get S.move; ⟨t, (ns_is G _).symm.trans e⟩
  case := let ⟨t, e⟩ := int_get S.case; ⟨t, (ns_is G _).symm.trans e⟩
  most := let ⟨t, e⟩ := int_get S.most; ⟨t, (ns_is G _).symm.trans e⟩
  b64 := let ⟨t, e⟩ := bytes_get S.b64; ⟨t, (ns_is G _).symm.trans e⟩
  blt := fun x hx => (ns_is G _).symm.trans (S.blt x hx)
theorem wd_of {p : Program} {loose : List Str} {mean : ExcName → Option Value} {mb : Str → Option Value} (S : Says h) (T : Top p loose mean mg mb h) : Wd ⟨pw, w, mg, defsOf pw⟩ h where
  g := T.g
  b := ⟨mb, T.b, T.builtins⟩
  lim := T.nolimit
  defs := fun d hd => by
    obtain ⟨a, o, fd, h1, h2, h3, h4⟩ := fn_get (S.defs d hd)
    obtain ⟨b, g1, g2, g3, g4⟩ := fd_get h4
    obtain ⟨d1, d2⟩ := dfl_get g3
    obtain ⟨oc, od, odt, osl⟩ := o
    obtain ⟨f1, f2, f3, f4, f5, f6, f7, dV, kV, doc, pm, an, cdv, ct, f8⟩ := fd
    have h3 : odt = _ := h3
    have g1 : f4 = _ := g1
    unfold fnWant at g4
    injection g4 with q1 q2 q3 q4 q5 q6 q7 q8 q9 q10
    subst h3 g1
    dsimp only at q1 q2 q3 q4 q5 q6 q7 q8
    subst q1 q2 q3 q4 q5 q6 q7 q8
    refine ⟨a, dV, kV, cdv, (ns_is T.g _).symm.trans h1, ⟨oc, od, osl, doc, pm, an, ct, h2⟩, code_get g2, fun e => d1 ?_, fun k p e => ?_⟩
    · show (match d.params.defaults with | [] => none | _ => some [Value.none]) = none
      rw [e]
    · obtain ⟨T', o, n, e1, e2, e3⟩ := d2 [.none] (by show (match d.params.defaults with | [] => none | _ => some [Value.none]) = _; rw [e])
      exact ⟨T', o, n, e1, e2, e3⟩
end

/-! the run of the text, up to the law -/
noncomputable def vw : Program := { pw with main := { pw.main with body := pw.main.body.drop 34 } }
noncomputable def lo : List Str := ["_wall", "_MAX_STRING_SIZE", "_MOVE_COST", "_CASE_COST", "_substitution_cost", "_levenshtein_distance", "_buffer", "_truth", "_B64", "b2a_base64", "b64encode", "_plain_name", "ABCMeta", "_ABCLike", "_abc_plain_meta", "fspath", "_check_arg_types", "_get_sep", "join", "commonpath", "_law_table", "_law_octets", "_law_ways", "_law_rounds"]
theorem said_ok : PySem.Challenge.rw_rt0050_01.wellSaid = true := by kernel_rfl
theorem left_ok : LeftO PySem.Challenge.rw_rt0050_01.row.prog vw lo (fun s => xlAt vw [] s && recOk (RowW.records (OpenRow.toRowW PySem.Challenge.rw_rt0050_01.row)) s) obsS valS 2700 := fun w => by kernel_rfl
end TL
end
/-! ### TPd -/
section
open PySem PySem.W PyProof.Rows
namespace TL
theorem law_goal {w : World} {s₁ : Shared} {mg mb : Str → Option Value} {p : Program} {loose : List Str} {mean : ExcName → Option Value} (D : Says s₁.heap) (T : Top p loose mean mg mb s₁.heap) (hs : s₁.heap.NoSeer)
    {d : Df} (hd' : (defsOf pw)[18]? = some d) {fa : Addr} {cdv : Value} {ns : List Int} {vs : List Value} {a : Addr} (hL : s₁.heap.IsList a vs.toArray) (hI : IntsAre vs ns) (h63 : ns.length ≤ 63)
    {h₁ : Heap} {tk₁ : Nat} {m : Str → Option Value} (F : Fr s₁.heap s₁.heap.objs.size h₁ m) (hm : m "script" = some (.ref a)) {o1 o2 o3 : Obj} {v1 v2 v3 : Option Value} (e3 : o3.data = .cell v3) (e2 : o2.data = .cell v2) (e1 : o1.data = .cell v1)
    (N : News s₁.heap s₁.heap.objs.size h₁ [(s₁.heap.objs.size + 1 + 1 + 1, o3), (s₁.heap.objs.size + 1 + 1, o2), (s₁.heap.objs.size + 1, o1)]) :
    wpAny (model pw w) (callerA.deeper (fenv d s₁.heap.objs.size fa cdv [("number", s₁.heap.objs.size + 1 + 1 + 1), ("signs", s₁.heap.objs.size + 1 + 1), ("table", s₁.heap.objs.size + 1)]))
      (execs d.body (fenv d s₁.heap.objs.size fa cdv [("number", s₁.heap.objs.size + 1 + 1 + 1), ("signs", s₁.heap.objs.size + 1 + 1), ("table", s₁.heap.objs.size + 1)]))
      (fun f s' => ∃ h' tk' m', f = .ret (.bool true) ∧ s' = { s₁ with heap := h', toks := tk' } ∧ Fr s₁.heap s₁.heap.objs.size h' m') (fun _ _ => False) { s₁ with heap := h₁, toks := tk₁ } := by
  have H := pm_of (w := w) D T.g
  have W := wd_of (w := w) D T
  have O : Cx.Ok ⟨pw, w, callerA.deeper (fenv d s₁.heap.objs.size fa cdv [("number", s₁.heap.objs.size + 1 + 1 + 1), ("signs", s₁.heap.objs.size + 1 + 1), ("table", s₁.heap.objs.size + 1)]),
      fenv d s₁.heap.objs.size fa cdv [("number", s₁.heap.objs.size + 1 + 1 + 1), ("signs", s₁.heap.objs.size + 1 + 1), ("table", s₁.heap.objs.size + 1)], s₁, fun b => b = sysModules⟩ ⟨pw, w, mg, defsOf pw⟩ (0 + 4) := by
    refine ⟨rfl, rfl, ?_, rfl, rfl, W, rfl, ?_, ?_⟩
    · cases hd'; rfl
    · show callerA.depth + 1 + (0 + 4) < recursionLimit; decide
    · show callerA.units + 3 + 8 * (0 + 4) + 8 < cLine; decide
  have look : ∀ n c', List.lookup n [(("number" : Str), s₁.heap.objs.size + 1 + 1 + 1), ("signs", s₁.heap.objs.size + 1 + 1), ("table", s₁.heap.objs.size + 1)] = some c' →
      (n = "number" ∧ c' = s₁.heap.objs.size + 1 + 1 + 1) ∨ (n = "signs" ∧ c' = s₁.heap.objs.size + 1 + 1) ∨ (n = "table" ∧ c' = s₁.heap.objs.size + 1) := by
    intro n c' e
    have := mem_of_lookup e
    simp only [List.mem_cons, Prod.mk.injEq, List.not_mem_nil, or_false] at this
    exact this
  have none_of : ∀ b, s₁.heap.objs.size ≤ b → s₁.heap.get? b = none := fun b hb => Heap.get?_none_of_le hb
  have rest := law_rest H hd' O rfl (fun x hx => by
    have hn : x = "number" ∨ x = "signs" ∨ x = "table" := by
      cases hd'
      have := mem_of_lookup hx
      have := (by simpa using this : x = "table" ∨ x = "signs" ∨ x = "number")
      rcases this with h | h | h
      · exact .inr (.inr h)
      · exact .inr (.inl h)
      · exact .inl h
    rcases hn with rfl | rfl | rfl
    · exact ⟨_, rfl, none_of _ (by (first | lia | omega))⟩
    · exact ⟨_, rfl, none_of _ (by (first | lia | omega))⟩
    · exact ⟨_, rfl, none_of _ (by (first | lia | omega))⟩) h63
  have B : Bd ⟨pw, w, callerA.deeper (fenv d s₁.heap.objs.size fa cdv [("number", s₁.heap.objs.size + 1 + 1 + 1), ("signs", s₁.heap.objs.size + 1 + 1), ("table", s₁.heap.objs.size + 1)]),
      fenv d s₁.heap.objs.size fa cdv [("number", s₁.heap.objs.size + 1 + 1 + 1), ("signs", s₁.heap.objs.size + 1 + 1), ("table", s₁.heap.objs.size + 1)], s₁, fun b => b = sysModules⟩ [] m (fun _ => 0) h₁ := by
    refine ⟨F.ns, none_of _ (Nat.le_refl _), F.keep, fun b hb => ?_, fun n c' e => ?_, fun n n' c' e e' => ?_, fun x lv e => (by cases e), fun x t e => (by cases e)⟩
    · obtain ⟨mm, n1, _⟩ := hs.mods
      have hb : b = sysModules := hb
      subst hb
      obtain ⟨o, e⟩ := nsAt n1
      exact ⟨o, F.keep _ _ e⟩
    · rcases look n c' e.1 with ⟨_, rfl⟩ | ⟨_, rfl⟩ | ⟨_, rfl⟩
      · exact ⟨by show _ ≠ s₁.heap.objs.size; (first | lia | omega), _, _, N.get (by simp), e3⟩
      · exact ⟨by show _ ≠ s₁.heap.objs.size; (first | lia | omega), _, _, N.get (by simp), e2⟩
      · exact ⟨by show _ ≠ s₁.heap.objs.size; (first | lia | omega), _, _, N.get (by simp), e1⟩
    · rcases look n c' e.1 with ⟨rfl, h1⟩ | ⟨rfl, h1⟩ | ⟨rfl, h1⟩ <;> rcases look n' c' e'.1 with ⟨rfl, h2⟩ | ⟨rfl, h2⟩ | ⟨rfl, h2⟩ <;> first | rfl | (exfalso; (first | lia | omega))
  cases hd'
  refine wpAny_mono (row_first O hL hI h63 (s := { s₁ with heap := h₁, toks := tk₁ }) B (.inl ⟨rfl, hm⟩) rest) (fun f s' hP => ?_) fun _ _ x => x
  obtain ⟨h', tk', σ', m', α', rfl, B', F', r⟩ := hP
  cases f with
  | ret v =>
    obtain ⟨t, rt, q⟩ := r
    cases q
    have rt : v = .bool true := rt
    exact ⟨h', tk', m', by rw [rt], rfl, B'.ns, B'.keep, Nat.le_refl _⟩
  | next => cases r
  | brk => cases r
  | cont => cases r
end TL
end
open PySem PySem.W PyProof.Rows
set_option maxRecDepth 100000 in
set_option maxHeartbeats 8000000 in
theorem PySem.Challenge.cw_rt0050_01_holds : PySem.Challenge.rw_rt0050_01.Holds := by
  w_on
  refine holds_law TL.said_ok fun said => ?_
  refine holds_open (q := TL.vw) (loose := TL.lo) (Xt := fun s => xlAt TL.vw [] s && recOk (RowW.records (OpenRow.toRowW PySem.Challenge.rw_rt0050_01.row)) s) (XP := XL TL.vw []) (Yf := TL.obsS) (Ya := TL.valS) (YP := fun _ h => TL.Says h) (N := 2700) TL.left_ok TL.says_of (fun _ _ _ S K => TL.says_keep S K) (fun s e => xl_of s (Bool.and_eq_true_iff.mp e).1) XL.keeps (by rfl) (by rfl) (by rfl) (fun s e => recFacts_of (Bool.and_eq_true_iff.mp e).2) (by rfl) (by first | assumption | decide +kernel) (by decide +kernel) ⟨rfl, rfl, rfl, rfl, rfl, by decide +kernel⟩ ?hw ?hc
  (case hw => w_witness2)
  intro w s₀ s₁ mg mb G Y fa o pm cd doc dV kV ho hd hcd hD hmg hg args vals as hpre hlay hrd hwl hlo
  have V := (Ground.X G).2
  refine Ground.open G ?_
  intro T B D TE TW
  try (refine guard_noD D (by decide +kernel) ?_; clear D)
  have TA := at_of_top T
  obtain ⟨_, _, he, B0⟩ := based_of_top T rfl hmg ho hd
  have he' : cd = _ := he
  subst he'
  clear he hmg
  wrow_args hpre hlay hrd hwl hlo
  first | refine callC_kw (enter_call ?_) | refine enter_call ?_ | refine callC_kw (enter_callW ?_) | refine enter_callW ?_
  w_top on
  try refine codeAny_mono ?_ (fun _ _ g => GoodW.toG g)
  have K0 := below_caller (Top.heap T)
  w_call any ho hd hcd hD T F
  clear hd TA
  k_drop
  rename_i w10 w9 ns hs hlay0 hL' hr1 hl2 w7 w6 a vs w3 hL ra w1 r0 hI hr hc1 hc2 h₁ tk₁ o3 o2 o1 d3 d2 d1 N0 X0
  have h63 : ns.length ≤ 63 := by
    have := hc1
    omega
  refine wpAny_mono (TL.law_goal Y T (T.seer (by decide +kernel)) (d := _) rfl (fa := fa) hL hI h63 F rfl d3 d2 d1 N0) (fun f s' hP => ?_) (fun _ _ x => x.elim)
  obtain ⟨h', tk', m', rfl, rfl, F'⟩ := hP
  refine goodW_bool F' hg (raisesW_false ?_) ?_
  · wrow_none_raised
  · kc_post
