import PyProof.Rows.All
import Wide.All
import OpenK.AllK
import Wide.FinOn
import PySem.Challenge.RW_uq0005_01
set_option Elab.async false
namespace Mine
open PySem PySem.W PyProof.Rows PySem.Calls PySem.Spec

/-! ### A small Hoare layer: locals by place, a ledger of what is owned -/

/-- what is known of a value -/
inductive SV where
  | any
  | i (n : Int)
  | y (b : Array UInt8)
  | s (x : Str)
  | v (x : Value)

def SV.is : SV → Option Value → Prop
  | .any, _ => True
  | .i n, o => ∃ t, o = some (.int n t)
  | .y b, o => ∃ t, o = some (.bytes b t)
  | .s x, o => ∃ t, o = some (.str x t)
  | .v x, o => o = some x

def SV.known : SV → Bool
  | .any => false
  | _ => true

theorem SV.is_some {a : SV} {o : Option Value} (h : a.is o) (k : a.known = true) : ∃ v, o = some v := by
  cases a with
  | any => cases k
  | i n => exact ⟨_, h.choose_spec⟩
  | y b => exact ⟨_, h.choose_spec⟩
  | s x => exact ⟨_, h.choose_spec⟩
  | v x => exact ⟨_, h⟩

abbrev Led := List (Addr × (Obj → Prop))
abbrev Loc := List SV

def Led.at (n : Led) : List Addr := n.map (·.1)

/-- the map of a frame's names -/
def mp : List Str → List (Option Value) → Str → Option Value
  | n :: ns, v :: vs, x => if x = n then v else mp ns vs x
  | _, _, _ => none

def fits : Loc → List (Option Value) → Prop
  | [], [] => True
  | a :: l, v :: vs => a.is v ∧ fits l vs
  | _, _ => False

structure Cx where
  prog : Program
  w : World
  A : Around
  g : Heap
  L : Addr
  env : Env
  names : List Str

structure Good (X : Cx) (l : Loc) (n : Led) (h : Heap) : Prop where
  fr : ∃ vs, fits l vs ∧ Fr X.g X.L h (mp X.names vs)
  nw : ∀ p ∈ n, (∃ o, h.get? p.1 = some o ∧ p.2 o) ∧ p.1 ≠ X.L ∧ X.g.get? p.1 = none
  nd : n.at.Nodup

structure WP {α : Type} (X : Cx) (t : Sem α) (l : Loc) (n : Led) (Q : α → Loc → Led → Prop) : Prop where
  run : ∀ (r : Led) (s : Shared) (R : α → Shared → Prop) (E : Value → Shared → Prop), Good X l (n ++ r) s.heap →
    (∀ a l' n' h' tk', Q a l' n' → Good X l' (n' ++ r) h' → R a { s with heap := h', toks := tk' }) →
    wpAny (model X.prog X.w) X.A t R E s

/-- the one ledger holds the other -/
def Led.le (n m : Led) : Prop := ∃ d, List.Perm (n ++ d) m
theorem Led.le_refl (n : Led) : n.le n := ⟨[], by rw [List.append_nil]⟩
theorem Led.le_of_perm {n m : Led} (h : List.Perm n m) : n.le m := ⟨[], by rw [List.append_nil]; exact h⟩
theorem Led.le_trans {a b c : Led} (h : a.le b) (k : b.le c) : a.le c := by
  obtain ⟨d, h⟩ := h
  obtain ⟨e, k⟩ := k
  exact ⟨d ++ e, by rw [← List.append_assoc]; exact (h.append_right e).trans k⟩
theorem Led.le_cons {a b : Led} (p) (h : a.le b) : Led.le (p :: a) (p :: b) := let ⟨d, h⟩ := h; ⟨d, List.Perm.cons p h⟩
theorem Led.le_skip {a b : Led} (p) (h : a.le b) : Led.le a (p :: b) := let ⟨d, h⟩ := h; ⟨p :: d, List.perm_middle.trans (List.Perm.cons p h)⟩
theorem Led.nil_le (b : Led) : Led.le [] b := ⟨b, List.Perm.refl _⟩
theorem Led.le_append {a b : Led} (h : a.le b) (r : Led) : Led.le (a ++ r) (b ++ r) := by
  obtain ⟨d, h⟩ := h
  refine ⟨d, ?_⟩
  rw [List.append_assoc]
  exact ((List.Perm.append_left a List.perm_append_comm)).trans (by rw [← List.append_assoc]; exact h.append_right r)

theorem Good.le {X : Cx} {l : Loc} {n m : Led} {h : Heap} (G : Good X l m h) (k : n.le m) : Good X l n h := by
  obtain ⟨d, k⟩ := k
  refine ⟨G.fr, fun p hp => G.nw p (k.mem_iff.mp (List.mem_append_left _ hp)), ?_⟩
  have q : (Led.at (n ++ d)).Nodup := (List.Perm.map (fun p : Addr × (Obj → Prop) => p.1) k).nodup_iff.mpr G.nd
  unfold Led.at at q
  rw [List.map_append] at q
  exact (List.nodup_append.mp q).1

section
variable {α β : Type} {X : Cx} {t : Sem α} {l : Loc} {n : Led} {Q Q' : α → Loc → Led → Prop}

theorem WP.mono (h : WP X t l n Q) (k : ∀ a l' n', Q a l' n' → Q' a l' n') : WP X t l n Q' :=
  .mk fun r s R E G q => h.run r s R E G fun a l' n' h' tk' x G' => q a l' n' h' tk' (k a l' n' x) G'

theorem WP.weaken (h : WP X t l n Q) (k : ∀ a l' n', Q a l' n' → ∃ n'', Led.le n'' n' ∧ Q' a l' n'') : WP X t l n Q' :=
  .mk fun r s R E G q => h.run r s R E G fun a l' n' h' tk' x G' => let ⟨n'', y, z⟩ := k a l' n' x; q a l' n'' h' tk' z (G'.le (Led.le_append y r))

theorem WP.pre {m : Led} (h : WP X t l n Q) (k : n.le m) : WP X t l m Q :=
  .mk fun r s R E G q => h.run r s R E (G.le (Led.le_append k r)) q

theorem WP.frame (h : WP X t l n Q) (m : Led) : WP X t l (n ++ m) (fun a l' n' => ∃ n₁, n' = n₁ ++ m ∧ Q a l' n₁) :=
  .mk fun r s R E G q => h.run (m ++ r) s R E (by rw [← List.append_assoc]; exact G) fun a l' n' h' tk' x G' => q a l' (n' ++ m) h' tk' ⟨n', rfl, x⟩ (by rw [List.append_assoc]; exact G')

end

/-! ### Heaps -/
section
variable {X : Cx} {l : Loc} {n : Led} {h h' : Heap} {a : Addr} {P P' : Obj → Prop} {o o' : Obj}

theorem Good.keeps (G : Good X l n h) (k : ∀ b o, h.get? b = some o → h'.get? b = some o) : Good X l n h' := by
  obtain ⟨⟨vs, f, F⟩, N, D⟩ := G
  exact ⟨⟨vs, f, F.ns.keeps k, fun b o e => k b o (F.keep b o e), F.above⟩, fun p hp => let ⟨⟨o, h1, h2⟩, r⟩ := N p hp; ⟨⟨o, k _ _ h1, h2⟩, r⟩, D⟩

theorem Good.fresh (G : Good X l n h) (hn : h.get? a = none) : a ≠ X.L ∧ X.g.get? a = none ∧ a ∉ n.at := by
  obtain ⟨⟨vs, f, F⟩, N, D⟩ := G
  refine ⟨fun e => ?_, ?_, fun hm => ?_⟩
  · obtain ⟨o, _, _, h1, _⟩ := F.ns
    rw [← e, hn] at h1; cases h1
  · cases q : X.g.get? a with
    | none => rfl
    | some o => rw [F.keep _ _ q] at hn; cases hn
  · obtain ⟨p, hp, rfl⟩ := List.mem_map.mp hm
    obtain ⟨⟨o, h1, _⟩, _⟩ := N p hp
    rw [hn] at h1; cases h1

theorem Good.add (G : Good X l n h) (k : ∀ b o, h.get? b = some o → h'.get? b = some o) (hn : h.get? a = none) (ho : h'.get? a = some o) (hP : P o) : Good X l ((a, P) :: n) h' := by
  obtain ⟨h1, h2, h3⟩ := G.fresh hn
  have G' := G.keeps k
  refine ⟨G'.fr, fun p hp => ?_, List.nodup_cons.mpr ⟨h3, G'.nd⟩⟩
  rcases List.mem_cons.mp hp with rfl | hp
  · exact ⟨⟨o, ho, hP⟩, h1, h2⟩
  · exact G'.nw p hp

theorem Good.get (G : Good X l n h) {p} (hp : p ∈ n) : ∃ o, h.get? p.1 = some o ∧ p.2 o := (G.nw p hp).1

theorem Good.upd (G : Good X l ((a, P) :: n) h) (k : ∀ b o, b ≠ a → h.get? b = some o → h'.get? b = some o) (ho : h'.get? a = some o') (hP : P' o') : Good X l ((a, P') :: n) h' := by
  obtain ⟨⟨vs, f, F⟩, N, D⟩ := G
  obtain ⟨_, h1, h2⟩ := N _ (.head _)
  refine ⟨⟨vs, f, ?_, fun b o e => k b o (fun q => ?_) (F.keep b o e), F.above⟩, fun p hp => ?_, D⟩
  · obtain ⟨oL, es, ep, hL, r⟩ := F.ns
    exact ⟨oL, es, ep, k _ _ (Ne.symm h1) hL, r⟩
  · rw [q, h2] at e; cases e
  · rcases List.mem_cons.mp hp with rfl | hp
    · exact ⟨⟨o', ho, hP⟩, h1, h2⟩
    · obtain ⟨⟨o, e1, e2⟩, r⟩ := N p (.tail _ hp)
      refine ⟨⟨o, k _ _ (fun q => ?_) e1, e2⟩, r⟩
      exact (List.nodup_cons.mp D).1 (List.mem_map.mpr ⟨p, hp, q⟩)

theorem Good.drop (G : Good X l ((a, P) :: n) h) : Good X l n h := G.le (Led.le_skip _ (Led.le_refl _))

end

end Mine
namespace Mine
open PySem PySem.W PyProof.Rows PySem.Calls PySem.Spec

/-- what stands behind a frame -/
structure Gd where
  K : Frag
  prog : Program
  w : World
structure Ok (Γ : Gd) (X : Cx) (d : Nat) (sc : Scope) (ns : List Str) (cl : List (Str × Addr)) : Prop where
  hp : X.prog = Γ.prog
  hw : X.w = Γ.w
  room : X.A.depth + d < recursionLimit
  units : X.A.units + 10 * d + 80 < cLine
  kin : Γ.K.In X.g
  top : ∃ p loose mean mg mb, Top p loose mean mg mb X.g
  hh : X.A.handled = none
  hs : X.env.scope = sc
  hn : X.names = ns
  hc : X.env.cells = cl
  kd : sc.kind = .function
  lo : X.env.locals = X.L
  gl : X.env.globals = mainGlobals
  bl : X.env.builtins = builtinsNs
  nod : ns.Nodup
  loc : ∀ x ∈ ns, sc.names.lookup x = some .local
  dbg : ∀ x ∈ ns, (x == ("__debug__" : Str)) = false

inductive Look : List Str → Loc → Str → SV → Prop
  | here {n ns v l} : Look (n :: ns) (v :: l) n v
  | there {m ns w l n v} : Look ns l n v → Look (m :: ns) (w :: l) n v

inductive Put : List Str → Loc → Str → (SV → Loc) → Prop
  | here {n ns w l} : Put (n :: ns) (w :: l) n (fun v => v :: l)
  | there {m ns w l n f} : Put ns l n f → Put (m :: ns) (w :: l) n (fun v => w :: f v)

theorem Look.mem {ns l n v} (h : Look ns l n v) : n ∈ ns := by induction h with | here => exact .head _ | there _ ih => exact .tail _ ih
theorem Put.mem {ns l n f} (h : Put ns l n f) : n ∈ ns := by induction h with | here => exact .head _ | there _ ih => exact .tail _ ih

theorem Look.get {ns l n v} (h : Look ns l n v) : ∀ {vs}, ns.Nodup → fits l vs → v.is (mp ns vs n) := by
  induction h with
  | here =>
    intro vs d f
    cases vs with
    | nil => exact f.elim
    | cons u us => simp only [mp, if_true]; exact f.1
  | @there m _ _ _ n _ h ih =>
    intro vs d f
    cases vs with
    | nil => exact f.elim
    | cons u us =>
      obtain ⟨d1, d2⟩ := List.nodup_cons.mp d
      rw [mp, if_neg fun e : n = m => d1 (e ▸ h.mem)]
      exact ih d2 f.2
theorem Put.set {ns l n g} (h : Put ns l n g) : ∀ {vs v w}, ns.Nodup → fits l vs → v.is (some w) → ∃ vs', fits (g v) vs' ∧ ∀ y, mp ns vs' y = if y = n then some w else mp ns vs y := by
  induction h with
  | here =>
    intro vs v w _ f k
    cases vs with
    | nil => exact f.elim
    | cons u us =>
      refine ⟨some w :: us, ⟨k, f.2⟩, fun y => ?_⟩
      rw [mp, mp]
      split <;> rfl
  | @there m _ _ _ n _ h ih =>
    intro vs v w d f k
    cases vs with
    | nil => exact f.elim
    | cons u us =>
      obtain ⟨d1, d2⟩ := List.nodup_cons.mp d
      obtain ⟨vs', f', e⟩ := ih d2 f.2 k
      refine ⟨u :: vs', ⟨f.1, f'⟩, fun y => ?_⟩
      rw [mp, mp, e]
      split
      · next q => rw [if_neg fun q' : _ = n => d1 ((q.symm.trans q') ▸ h.mem)]
      · rfl

abbrev Ev (X : Cx) (l : Loc) (n : Led) (e : Expr) (Q : Value → Loc → Led → Prop) : Prop := WP X (eval e X.env) l n Q
/-- the value is so; nothing is turned -/
def EvS (X : Cx) (l : Loc) (n : Led) (e : Expr) (a : SV) : Prop := WP X (eval e X.env) l n (fun v l' n' => a.is (some v) ∧ l' = l ∧ n' = n)
/-- the value is a new object -/
def EvN (X : Cx) (l : Loc) (n : Led) (e : Expr) (P : Obj → Prop) : Prop := WP X (eval e X.env) l n (fun v l' n' => ∃ a, v = .ref a ∧ l' = l ∧ n' = (a, P) :: n)
def EvT (X : Cx) (l : Loc) (n : Led) (e : Expr) (b : Bool) : Prop := WP X (isTrue e X.env (eval e X.env)) l n (fun c l' n' => c = b ∧ l' = l ∧ n' = n)
abbrev St (X : Cx) (l : Loc) (n : Led) (b : List Stmt) (Q : Flow → Loc → Led → Prop) : Prop := WP X (execs b X.env) l n Q

section
variable {Γ : Gd} {d : Nat} {X : Cx} {sc : Scope} {ns : List Str} {cl : List (Str × Addr)} {l l' : Loc} {n : Led} {x : Str} {pos : Pos} {a b : SV} {e e' : Expr}

theorem EvS.mono_sv (h : EvS X l n e a) (k : ∀ o, a.is o → b.is o) : EvS X l n e b := WP.mono h fun _ _ _ q => ⟨k _ q.1, q.2⟩

theorem EvS.int {i : Int} {k : Nat} : EvS X l n (.Constant (.int i) k pos) (.i i) := .mk fun r s R E G q => by
  refine wpAny_Constant_int ?_
  exact q _ l n s.heap (s.toks + 1) ⟨⟨_, rfl⟩, rfl, rfl⟩ G
theorem EvS.bool {i : Bool} {k : Nat} : EvS X l n (.Constant (.bool i) k pos) (.v (.bool i)) := .mk fun r s R E G q => by
  refine Constant_bool ?_
  exact q _ l n s.heap s.toks ⟨rfl, rfl, rfl⟩ G

theorem EvS.loc (hX : Ok Γ X d sc ns cl) (h : Look ns l x a) (k : a.known = true) : EvS X l n (.Name x pos) a := .mk fun r s R E G q => by
  obtain ⟨⟨vs, f, F⟩, _⟩ := id G
  have hv := h.get hX.nod f
  obtain ⟨v, hv'⟩ := SV.is_some hv k
  rw [hX.hn] at F
  refine wpAny_Name (wpAny_loadName_local (by rw [hX.hs]; exact hX.kd) (by unfold Env.kindOf; rw [hX.hs]; exact hX.loc _ h.mem) (by rw [hX.lo]; exact F.ns) hv' ?_) (hX.dbg _ h.mem)
  exact q _ l n s.heap s.toks ⟨hv' ▸ hv, rfl, rfl⟩ G

/-- a cell of the ledger -/
def CellIs (a : SV) (o : Obj) : Prop := ∃ v, o.data = .cell (some v) ∧ a.is (some v)
def CellAny (o : Obj) : Prop := ∃ v, o.data = .cell v

theorem EvS.cell {c : Addr} (hX : Ok Γ X d sc ns cl) (hk : sc.names.lookup x = some .cell) (hc : cl.lookup x = some c) (hm : (c, CellIs a) ∈ n) (hd : (x == ("__debug__" : Str)) = false := by decide) : EvS X l n (.Name x pos) a := .mk fun r s R E G q => by
  obtain ⟨o, ho, v, hd', hv⟩ := G.get (List.mem_append_left _ hm)
  refine wpAny_Name (wpAny_loadName_cell (by rw [hX.hs]; exact hX.kd) (by unfold Env.kindOf; rw [hX.hs]; exact hk) (by rw [hX.hc]; exact hc) ⟨o, ho, hd'⟩ ?_) hd
  exact q _ l n s.heap s.toks ⟨hv, rfl, rfl⟩ G
theorem EvS.free {c : Addr} (hX : Ok Γ X d sc ns cl) (hk : sc.names.lookup x = some .free) (hc : cl.lookup x = some c) (hm : (c, CellIs a) ∈ n) (hd : (x == ("__debug__" : Str)) = false := by decide) (hd2 : (x == ("__classdict__" : Str)) = false := by decide) : EvS X l n (.Name x pos) a := .mk fun r s R E G q => by
  obtain ⟨o, ho, v, hd', hv⟩ := G.get (List.mem_append_left _ hm)
  refine wpAny_Name (wpAny_loadName_free (by rw [hX.hs]; exact hX.kd) (by unfold Env.kindOf; rw [hX.hs]; exact hk) (by rw [hX.hc]; exact hc) ⟨o, ho, hd'⟩ ?_ hd2) hd
  exact q _ l n s.heap s.toks ⟨hv, rfl, rfl⟩ G

theorem EvS.glob {v : Value} (hX : Ok Γ X d sc ns cl) (hk : sc.names.lookup x = some .globalImplicit) (hg : nsIn Γ.K mainGlobals x = some (some v)) (hd : (x == ("__debug__" : Str)) = false := by decide) : EvS X l n (.Name x pos) (.v v) := .mk fun r s R E G q => by
  obtain ⟨p, loose, mean, mg, mb, T⟩ := hX.top
  obtain ⟨⟨vs, f, F⟩, _⟩ := id G
  refine Name_function_global (by rw [hX.hs]; exact hX.kd) (by unfold Env.kindOf; rw [hX.hs]; exact hk) (loadGlobal_global (mg := mg) (by rw [hX.gl]; exact T.g.keeps F.keep) (mg_of hX.kin T.g hg) ?_) hd
  exact q _ l n s.heap s.toks ⟨rfl, rfl, rfl⟩ G
theorem EvS.blt {v : Value} (hX : Ok Γ X d sc ns cl) (hk : sc.names.lookup x = some .globalImplicit) (hg : nsIn Γ.K mainGlobals x = some none) (hb : bootBuiltins x = some v) (hn : x ≠ "__name__" := by decide) (hd : (x == ("__debug__" : Str)) = false := by decide) : EvS X l n (.Name x pos) (.v v) := .mk fun r s R E G q => by
  obtain ⟨p, loose, mean, mg, mb, T⟩ := hX.top
  obtain ⟨⟨vs, f, F⟩, _⟩ := id G
  refine Name_function_global (by rw [hX.hs]; exact hX.kd) (by unfold Env.kindOf; rw [hX.hs]; exact hk) (loadGlobal_builtin (mg := mg) (mb := mb) (by rw [hX.gl]; exact T.g.keeps F.keep) (mg_none_of hX.kin T.g hg) (by rw [hX.bl]; exact T.b.keeps F.keep) ((T.builtins x hn).trans hb) ?_) hd
  exact q _ l n s.heap s.toks ⟨rfl, rfl, rfl⟩ G

/-! operators on ints -/
theorem EvS.bin {op : Operator} {x y z : SV} (ha : EvS X l n e x) (hb : EvS X l n e' y)
    (h : ∀ v u, x.is (some v) → y.is (some u) → WP X (binaryOp op v u) l n (fun v' l' n' => z.is (some v') ∧ l' = l ∧ n' = n)) : EvS X l n (.BinOp e op e' pos) z := .mk fun r s R E G q => by
  refine wpAny_BinOp (ha.run r s _ E G ?_)
  rintro v l₁ n₁ h₁ tk₁ ⟨hv, rfl, rfl⟩ G₁
  refine hb.run r _ _ E G₁ ?_
  rintro u l₂ n₂ h₂ tk₂ ⟨hu, rfl, rfl⟩ G₂
  exact (h v u hv hu).run r _ _ E G₂ fun a l' n' h' tk' x G' => q a l' n' h' tk' x G'
end

section
variable {X : Cx} {l : Loc} {n : Led} {pos : Pos} {e e' : Expr} {x y : Int}
theorem EvS.add (ha : EvS X l n e (.i x)) (hb : EvS X l n e' (.i y)) : EvS X l n (.BinOp e .Add e' pos) (.i (x + y)) := by
  refine EvS.bin ha hb ?_
  rintro v u ⟨t, e1⟩ ⟨t', e2⟩
  cases e1; cases e2
  refine .mk fun r s R E G q => ?_
  exact add_int (q _ l n s.heap (s.toks + 1) ⟨⟨_, rfl⟩, rfl, rfl⟩ G)
end
end Mine
namespace Mine
open PySem PySem.W PyProof.Rows PySem.Calls PySem.Spec
set_option linter.unusedVariables false

section
variable {X : Cx} {l : Loc} {n : Led} {pos : Pos} {e e' : Expr} {x y z : Int}

theorem EvS.op2 {op : Operator} (ha : EvS X l n e (.i x)) (hb : EvS X l n e' (.i y))
    (h : ∀ (t u : Tok) (s : Shared) (Q : Value → Shared → Prop) (E : Value → Shared → Prop), Q (.int z s.toks) { s with toks := s.toks + 1 } → wpAny (model X.prog X.w) X.A (binaryOp op (.int x t) (.int y u)) Q E s) :
    EvS X l n (.BinOp e op e' pos) (.i z) := by
  refine EvS.bin ha hb ?_
  rintro v u ⟨t, e1⟩ ⟨t', e2⟩
  cases e1; cases e2
  refine .mk fun r s R E G q => ?_
  exact h _ _ s _ E (q _ l n s.heap (s.toks + 1) ⟨⟨_, rfl⟩, rfl, rfl⟩ G)

theorem EvS.sub (ha : EvS X l n e (.i x)) (hb : EvS X l n e' (.i y)) : EvS X l n (.BinOp e .Sub e' pos) (.i (x - y)) :=
  EvS.op2 ha hb fun _ _ _ _ _ h => by with_reducible exact sub_int h
theorem bits_of_natAbs {a : Int} {k : Nat} (h : a.natAbs < 2 ^ k) : Builtin.Int.intBits a ≤ k := by
  unfold Builtin.Int.intBits
  by_cases h0 : (a == 0) = true
  · rw [if_pos h0]; exact Nat.zero_le _
  · rw [if_neg h0]
    have h1 : a.natAbs ≠ 0 := fun q => h0 (by simpa using q)
    exact (Nat.log2_lt h1).mpr h
theorem EvS.mulL (hx : x.natAbs < 2 ^ 64) (ha : EvS X l n e (.i x)) (hb : EvS X l n e' (.i y)) : EvS X l n (.BinOp e .Mult e' pos) (.i (x * y)) :=
  EvS.op2 ha hb fun _ _ _ _ _ h => by with_reducible exact mul_int h (IntMulOk.of_left (bits_of_natAbs hx))
theorem pylong_no {a b : Int} (h : b.natAbs < 2 ^ 9000) : Builtin.divisionGoesByPylong a b = false := by
  refine PyProof.noPylong_of_log2 ?_
  by_cases h0 : b.natAbs = 0
  · rw [h0]; decide +kernel
  · exact (Nat.log2_lt h0).mpr h
theorem EvS.div (hy : 0 < y) (hs : y.natAbs < 2 ^ 9000) (ha : EvS X l n e (.i x)) (hb : EvS X l n e' (.i y)) : EvS X l n (.BinOp e .FloorDiv e' pos) (.i (x / y)) :=
  EvS.op2 ha hb fun _ _ _ _ _ h => floordiv_int (by (first | decide | lia | omega)) (by rw [Int.fdiv_eq_ediv_of_nonneg _ (by (first | decide | lia | omega))]; exact h) (.inl (pylong_no hs))
theorem EvS.mod (hy : 0 < y) (ha : EvS X l n e (.i x)) (hb : EvS X l n e' (.i y)) : EvS X l n (.BinOp e .Mod e' pos) (.i (x % y)) :=
  EvS.op2 ha hb fun _ _ _ _ _ h => mod_int' (by (first | decide | lia | omega)) (by rw [Int.fmod_eq_emod_of_nonneg _ (by (first | decide | lia | omega))]; exact h)
theorem EvS.shl {k : Nat} {j : Nat} (hx : x.natAbs < 2 ^ j) (hj : j + k ≤ 2 ^ 27) (ha : EvS X l n e (.i x)) (hb : EvS X l n e' (.i k)) : EvS X l n (.BinOp e .LShift e' pos) (.i (x * 2 ^ k)) :=
  EvS.op2 ha hb fun _ _ _ _ _ h => lshift_int (by (first | decide | lia | omega)) (by have := bits_of_natAbs hx; (first | decide | lia | omega)) (by simpa using h)
theorem EvS.shr {k : Nat} (ha : EvS X l n e (.i x)) (hb : EvS X l n e' (.i k)) : EvS X l n (.BinOp e .RShift e' pos) (.i (x / 2 ^ k)) :=
  EvS.op2 ha hb fun _ _ _ _ _ h => rshift_int (by (first | decide | lia | omega)) (by rw [Int.fdiv_eq_ediv_of_nonneg _ (Int.le_of_lt (kbt_pos _))]; simpa using h)
theorem EvS.band (ha : EvS X l n e (.i x)) (hb : EvS X l n e' (.i y)) : EvS X l n (.BinOp e .BitAnd e' pos) (.i (Builtin.bitAnd x y)) :=
  EvS.op2 ha hb fun _ _ _ _ _ h => by with_reducible exact and_int h
theorem EvS.bor (ha : EvS X l n e (.i x)) (hb : EvS X l n e' (.i y)) : EvS X l n (.BinOp e .BitOr e' pos) (.i (Builtin.bitOr x y)) :=
  EvS.op2 ha hb fun _ _ _ _ _ h => by with_reducible exact or_int h
theorem EvS.bxor (ha : EvS X l n e (.i x)) (hb : EvS X l n e' (.i y)) : EvS X l n (.BinOp e .BitXor e' pos) (.i (Builtin.bitXor x y)) :=
  EvS.op2 ha hb fun _ _ _ _ _ h => by with_reducible exact xor_int h
theorem EvS.pow {k : Nat} {j : Nat} (hx : x.natAbs < 2 ^ j) (hj : j * k ≤ 2 ^ 27) (ha : EvS X l n e (.i x)) (hb : EvS X l n e' (.i k)) : EvS X l n (.BinOp e .Pow e' pos) (.i (x ^ k)) :=
  EvS.op2 ha hb fun _ _ _ _ _ h => pow_int (by (first | decide | lia | omega)) (by
    have h1 := bits_of_natAbs hx
    have h2 : Builtin.Int.intBits x * k ≤ j * k := Nat.mul_le_mul_right k h1
    have h3 : Builtin.Int.intBits x * k ≤ 2 ^ 27 := Nat.le_trans h2 hj
    have e : (2 : Int) ^ 27 = ((2 ^ 27 : Nat) : Int) := by decide +kernel
    rw [e, ← Int.natCast_mul]
    exact Int.ofNat_le.mpr h3) (by simpa using h)

theorem EvS.as (h : EvS X l n e (.i x)) (k : x = y) : EvS X l n e (.i y) := k ▸ h

theorem EvS.un {op : UnaryOp} (ha : EvS X l n e (.i x))
    (h : ∀ (t : Tok) (s : Shared) (Q : Value → Shared → Prop) (E : Value → Shared → Prop), Q (.int z s.toks) { s with toks := s.toks + 1 } → wpAny (model X.prog X.w) X.A (unaryOp op (.int x t)) Q E s) :
    EvS X l n (.UnaryOp op e pos) (.i z) := .mk fun r s R E G q => by
  refine UnaryOp_ (ha.run r s _ E G ?_)
  rintro v l₁ n₁ h₁ tk₁ ⟨⟨t, e1⟩, rfl, rfl⟩ G₁
  cases e1
  exact h _ _ _ E (q _ l₁ n₁ h₁ (tk₁ + 1) ⟨⟨_, rfl⟩, rfl, rfl⟩ G₁)
theorem EvS.neg (ha : EvS X l n e (.i x)) : EvS X l n (.UnaryOp .USub e pos) (.i (-x)) := EvS.un ha fun _ _ _ _ h => by with_reducible exact neg_int h
theorem EvS.inv (ha : EvS X l n e (.i x)) : EvS X l n (.UnaryOp .Invert e pos) (.i (-x - 1)) := EvS.un ha fun _ _ _ _ h => invert_int h

/-! comparisons -/
theorem EvT.cmp {op : CmpOp} {a b : SV} {c : Bool} (ha : EvS X l n e a) (hb : EvS X l n e' b)
    (h : ∀ (v u : Value) (r : Led) (s : Shared) (Q : Value → Shared → Prop) (E : Value → Shared → Prop), Good X l (n ++ r) s.heap → a.is (some v) → b.is (some u) → (∀ h' tk, Good X l (n ++ r) h' → Q (.bool c) { s with heap := h', toks := tk }) → wpAny (model X.prog X.w) X.A (compareOp op v u) Q E s)
    (hm : behindInMarks op e' = false := by with_unfolding_all rfl) : EvT X l n (.Compare e [op] [e'] pos) c := .mk fun r s R E G q => by
  refine wpAny_isTrue_Compare1 (ha.run r s _ E G ?_) hm
  rintro v l₁ n₁ h₁ tk₁ ⟨hv, rfl, rfl⟩ G₁
  refine hb.run r _ _ E G₁ ?_
  rintro u l₂ n₂ h₂ tk₂ ⟨hu, rfl, rfl⟩ G₂
  exact h v u r _ _ E G₂ hv hu fun h' tk G' => wpAny_truthy_bool (q _ l₂ n₂ h' tk ⟨rfl, rfl, rfl⟩ G')
theorem EvT.cmpI {op : CmpOp} {c : Bool} (ha : EvS X l n e (.i x)) (hb : EvS X l n e' (.i y))
    (h : ∀ (t u : Tok) (s : Shared) (Q : Value → Shared → Prop) (E : Value → Shared → Prop), Q (.bool c) s → wpAny (model X.prog X.w) X.A (compareOp op (.int x t) (.int y u)) Q E s)
    (hm : behindInMarks op e' = false := by with_unfolding_all rfl) : EvT X l n (.Compare e [op] [e'] pos) c :=
  EvT.cmp ha hb (fun v u r s Q E G hv hu q => by
    obtain ⟨t, e1⟩ := hv
    obtain ⟨t', e2⟩ := hu
    cases e1; cases e2
    exact h _ _ s Q E (by have := q s.heap s.toks G; exact this)) hm
theorem EvT.lt (ha : EvS X l n e (.i x)) (hb : EvS X l n e' (.i y)) (hm : behindInMarks .Lt e' = false := by with_unfolding_all rfl) : EvT X l n (.Compare e [.Lt] [e'] pos) (decide (x < y)) := EvT.cmpI ha hb (fun _ _ _ _ _ h => by with_reducible exact lt_int h) hm
theorem EvT.le (ha : EvS X l n e (.i x)) (hb : EvS X l n e' (.i y)) (hm : behindInMarks .LtE e' = false := by with_unfolding_all rfl) : EvT X l n (.Compare e [.LtE] [e'] pos) (decide (x ≤ y)) := EvT.cmpI ha hb (fun _ _ _ _ _ h => by with_reducible exact le_int h) hm
theorem EvT.ge (ha : EvS X l n e (.i x)) (hb : EvS X l n e' (.i y)) (hm : behindInMarks .GtE e' = false := by with_unfolding_all rfl) : EvT X l n (.Compare e [.GtE] [e'] pos) (decide (y ≤ x)) := EvT.cmpI ha hb (fun _ _ _ _ _ h => by with_reducible exact ge_int h) hm
theorem EvT.eq (ha : EvS X l n e (.i x)) (hb : EvS X l n e' (.i y)) (hm : behindInMarks .Eq e' = false := by with_unfolding_all rfl) : EvT X l n (.Compare e [.Eq] [e'] pos) (x == y) := EvT.cmpI ha hb (fun _ _ _ _ _ h => by with_reducible exact eq_int h) hm
theorem EvT.ne (ha : EvS X l n e (.i x)) (hb : EvS X l n e' (.i y)) (hm : behindInMarks .NotEq e' = false := by with_unfolding_all rfl) : EvT X l n (.Compare e [.NotEq] [e'] pos) (x != y) := EvT.cmpI ha hb (fun _ _ _ _ _ h => by with_reducible exact ne_int h) hm

theorem EvT.not {b : Bool} (h : EvT X l n e b) : EvT X l n (.UnaryOp .Not e pos) (!b) := .mk fun r s R E G q => by
  refine isTrue_not (h.run r s _ E G ?_)
  rintro c l₁ n₁ h₁ tk₁ ⟨rfl, rfl, rfl⟩ G₁
  exact q _ l₁ n₁ h₁ tk₁ ⟨rfl, rfl, rfl⟩ G₁
theorem EvT.plain {b : Bool} {a : SV} (h : EvS X l n e a)
    (ht : ∀ (v : Value) (r : Led) (s : Shared) (Q : Bool → Shared → Prop) (E : Value → Shared → Prop), Good X l (n ++ r) s.heap → a.is (some v) → (∀ h' tk, Good X l (n ++ r) h' → Q b { s with heap := h', toks := tk }) → wpAny (model X.prog X.w) X.A (truthy v) Q E s)
    (he : isTrue e X.env (eval e X.env) = (do let v ← eval e X.env; standAt e.pos; holding [v] (truthy v)) := by rfl) : EvT X l n e b := .mk fun r s R E G q => by
  refine isTrue_plain (h.run r s _ E G ?_) he
  rintro v l₁ n₁ h₁ tk₁ ⟨hv, rfl, rfl⟩ G₁
  exact ht v r _ _ E G₁ hv fun h' tk G' => q _ l₁ n₁ h' tk ⟨rfl, rfl, rfl⟩ G'
theorem EvT.int (h : EvS X l n e (.i x)) (he : isTrue e X.env (eval e X.env) = (do let v ← eval e X.env; standAt e.pos; holding [v] (truthy v)) := by rfl) : EvT X l n e (x != 0) :=
  EvT.plain h (fun v r s Q E G hv q => by
    obtain ⟨t, e1⟩ := hv
    cases e1
    exact truthy_int (by have := q s.heap s.toks G; exact this)) he
theorem EvT.boolv {b : Bool} (h : EvS X l n e (.v (.bool b))) (he : isTrue e X.env (eval e X.env) = (do let v ← eval e X.env; standAt e.pos; holding [v] (truthy v)) := by rfl) : EvT X l n e b :=
  EvT.plain h (fun v r s Q E G hv q => by
    cases hv
    exact wpAny_truthy_bool (by have := q s.heap s.toks G; exact this)) he
theorem EvT.and2 {b c : Bool} {e₂ : Expr} (h : EvT X l n e b) (h2 : b = true → EvT X l n e₂ c) : EvT X l n (.BoolOp .And [e, e₂] pos) (b && c) := .mk fun r s R E G q => by
  refine isTrue_and (h.run r s _ E G ?_)
  rintro d l₁ n₁ h₁ tk₁ ⟨rfl, rfl, rfl⟩ G₁
  cases d with
  | false => exact q _ l₁ n₁ h₁ tk₁ ⟨rfl, rfl, rfl⟩ G₁
  | true =>
    refine isTrue_and ((h2 rfl).run r _ _ E G₁ ?_)
    rintro d l₁ n₁ h₁ tk₁ ⟨rfl, rfl, rfl⟩ G₁
    cases d with
    | false => exact q _ l₁ n₁ h₁ tk₁ ⟨rfl, rfl, rfl⟩ G₁
    | true => exact isTrue_and_nil (q _ l₁ n₁ h₁ tk₁ ⟨rfl, rfl, rfl⟩ G₁)
theorem EvT.or2 {b c : Bool} {e₂ : Expr} (h : EvT X l n e b) (h2 : b = false → EvT X l n e₂ c) : EvT X l n (.BoolOp .Or [e, e₂] pos) (b || c) := .mk fun r s R E G q => by
  refine isTrue_or (h.run r s _ E G ?_)
  rintro d l₁ n₁ h₁ tk₁ ⟨rfl, rfl, rfl⟩ G₁
  cases d with
  | true => exact q _ l₁ n₁ h₁ tk₁ ⟨rfl, rfl, rfl⟩ G₁
  | false =>
    refine isTrue_or ((h2 rfl).run r _ _ E G₁ ?_)
    rintro d l₁ n₁ h₁ tk₁ ⟨rfl, rfl, rfl⟩ G₁
    cases d with
    | true => exact q _ l₁ n₁ h₁ tk₁ ⟨rfl, rfl, rfl⟩ G₁
    | false => exact isTrue_or_nil (q _ l₁ n₁ h₁ tk₁ ⟨rfl, rfl, rfl⟩ G₁)

theorem Ev.ifexp {b : Bool} {t f : Expr} {Q : Value → Loc → Led → Prop} (h : EvT X l n e b) (h1 : b = true → Ev X l n t Q) (h2 : b = false → Ev X l n f Q) : Ev X l n (.IfExp e t f pos) Q := .mk fun r s R E G q => by
  refine IfExp_ (h.run r s _ E G ?_)
  rintro d l₁ n₁ h₁ tk₁ ⟨rfl, rfl, rfl⟩ G₁
  cases d with
  | true => exact (h1 rfl).run r _ _ E G₁ fun a l' n' h' tk' x G' => q a l' n' h' tk' x G'
  | false => exact (h2 rfl).run r _ _ E G₁ fun a l' n' h' tk' x G' => q a l' n' h' tk' x G'
end

/-! ### Statements -/
def Then (X : Cx) (rest : List Stmt) (Q : Flow → Loc → Led → Prop) : Flow → Loc → Led → Prop := fun f l n => match f with
  | .next => St X l n rest Q
  | f => Q f l n

section
variable {Γ : Gd} {d : Nat} {X : Cx} {sc : Scope} {ns : List Str} {cl : List (Str × Addr)} {l l' : Loc} {n : Led} {x : Str} {pos p₁ p₂ : Pos} {a b : SV} {e e' : Expr} {rest body orelse : List Stmt} {Q : Flow → Loc → Led → Prop} {st : Stmt}

theorem St.cons (h : WP X (exec st X.env) l n (Then X rest Q)) : St X l n (st :: rest) Q := .mk fun r s R E G q => by
  refine wpAny_execs_cons (h.run r s _ E G ?_)
  intro f l' n' h' tk' x G'
  cases f with
  | next => exact x.run r _ R E G' fun a l₂ n₂ h₂ tk₂ y G₂ => q a l₂ n₂ h₂ tk₂ y G₂
  | brk => exact q _ l' n' h' tk' x G'
  | cont => exact q _ l' n' h' tk' x G'
  | ret v => exact q _ l' n' h' tk' x G'
theorem St.nil (h : Q .next l n) : St X l n [] Q := .mk fun r s R E G q => wpAny_execs_nil (by have := q _ l n s.heap s.toks h G; exact this)

theorem St.nilT (h : St X l n rest Q) : St X l n [] (Then X rest Q) := St.nil h

theorem Good.store {h : Heap} {v : Value} {r : Led} {g : SV → Loc} (hX : Ok Γ X d sc ns cl) (P : Put ns l x g) (hv : a.is (some v)) (G : Good X l (n ++ r) h) : ∃ m, h.Ns X.L m ∧
    ∀ h', (h'.Ns X.L fun y => if y = x then some v else m y) → Heap.SameBut X.L h h' → Good X (g a) (n ++ r) h' := by
  obtain ⟨⟨vs, f, F⟩, N, D⟩ := G
  obtain ⟨vs', f', e⟩ := P.set hX.nod f hv
  refine ⟨_, F.ns, fun h' hn hs => ⟨⟨vs', f', F.set ?_ hs⟩, fun p hp => ?_, D⟩⟩
  · have e2 : mp X.names vs' = fun y => if y = x then some v else mp X.names vs y := funext fun y => by rw [hX.hn]; exact e y
    rw [e2]; exact hn
  · obtain ⟨⟨o, h1, h2⟩, h3, h4⟩ := N p hp
    exact ⟨⟨o, (hs.2 _ h3).trans h1, h2⟩, h3, h4⟩

theorem WP.store {v : Value} {g : SV → Loc} (hX : Ok Γ X d sc ns cl) (P : Put ns l x g) (hv : a.is (some v)) : WP X (storeName X.env x v) l n (fun _ l₁ n₁ => l₁ = g a ∧ n₁ = n) := .mk fun r s R E G q => by
  obtain ⟨m, hns, k⟩ := Good.store hX P hv G
  refine wpAny_storeName_local (by unfold Env.kindOf; rw [hX.hs]; exact hX.loc _ P.mem) (by rw [hX.lo]; exact hns) (fun h' hn hs => ?_) (by rw [hX.hs, hX.kd]; rfl)
  rw [hX.lo] at hn hs
  exact q () (g a) n h' (s.toks + 1) ⟨rfl, rfl⟩ (k h' hn hs)

/-- x = e -/
theorem St.assign {T : Value → Loc → Led → Prop} (hX : Ok Γ X d sc ns cl) (he : Ev X l n e T)
    (k : ∀ v l₁ n₁, T v l₁ n₁ → ∃ a g, a.is (some v) ∧ Put ns l₁ x g ∧ St X (g a) n₁ rest Q)
    (hs : swapsWith e (some (.Name x p₁)) pos.line X.env = pure false := by rfl) : St X l n (.Assign [.Name x p₁] e pos :: rest) Q := by
  refine St.cons (.mk fun r s R E G q => wpAny_Assign_Name (he.run r s _ E G ?_) hs)
  intro v l₁ n₁ h₁ tk₁ hv G₁
  obtain ⟨a, l', ha, P, hr⟩ := k v l₁ n₁ hv
  refine (WP.store hX P ha).run r _ _ E G₁ ?_
  rintro _ l₂ n₂ h₂ tk₂ ⟨rfl, rfl⟩ G₂
  exact q _ _ _ h₂ tk₂ hr G₂
theorem St.assignS {g : SV → Loc} (hX : Ok Γ X d sc ns cl) (he : EvS X l n e a) (P : Put ns l x g) (k : St X (g a) n rest Q)
    (hs : swapsWith e (some (.Name x p₁)) pos.line X.env = pure false := by rfl) : St X l n (.Assign [.Name x p₁] e pos :: rest) Q :=
  St.assign hX he (fun v l₁ n₁ ⟨h1, h2, h3⟩ => ⟨a, g, h1, h2 ▸ P, h3 ▸ k⟩) hs
theorem St.assignN {T : Obj → Prop} {g : SV → Loc} (hX : Ok Γ X d sc ns cl) (he : EvN X l n e T) (P : Put ns l x g) (k : ∀ c, St X (g (.v (.ref c))) ((c, T) :: n) rest Q)
    (hs : swapsWith e (some (.Name x p₁)) pos.line X.env = pure false := by rfl) : St X l n (.Assign [.Name x p₁] e pos :: rest) Q :=
  St.assign hX he (fun v l₁ n₁ ⟨c, h1, h2, h3⟩ => ⟨.v (.ref c), g, h1 ▸ rfl, h2 ▸ P, h3 ▸ k c⟩) hs

/-- x op= e, ints -/
theorem St.aug {op : Operator} {u v w : Int} (hX : Ok Γ X d sc ns cl) (hl : Look ns l x (.i u)) (he : EvS X l n e (.i v))
    (h : ∀ (t t' : Tok) (s : Shared) (Q : Value → Shared → Prop) (E : Value → Shared → Prop), Q (.int w s.toks) { s with toks := s.toks + 1 } → wpAny (model X.prog X.w) X.A (inplaceOp op (.int u t) (.int v t')) Q E s)
    {g : SV → Loc} (P : Put ns l x g) (k : St X (g (.i w)) n rest Q) : St X l n (.AugAssign (.Name x p₁) op e pos :: rest) Q := by
  refine St.cons (.mk fun r s R E G q => wpAny_AugAssign_Name ?_)
  obtain ⟨⟨vs, f, F⟩, _⟩ := id G
  obtain ⟨t, hv⟩ := hl.get hX.nod f
  rw [hX.hn] at F
  refine wpAny_loadName_local (by rw [hX.hs]; exact hX.kd) (by unfold Env.kindOf; rw [hX.hs]; exact hX.loc _ hl.mem) (by rw [hX.lo]; exact F.ns) hv ?_
  refine he.run r s _ E G ?_
  rintro v' l₁ n₁ h₁ tk₁ ⟨⟨t', e1⟩, rfl, rfl⟩ G₁
  cases e1
  refine h _ _ _ _ E ?_
  refine (WP.store (a := .i w) hX P ⟨_, rfl⟩).run r _ _ E G₁ ?_
  rintro _ l₂ n₂ h₂ tk₂ ⟨rfl, rfl⟩ G₂
  exact q _ _ _ h₂ tk₂ k G₂

theorem St.augAdd {u v : Int} (hX : Ok Γ X d sc ns cl) (hl : Look ns l x (.i u)) (he : EvS X l n e (.i v)) {g : SV → Loc} (P : Put ns l x g) (k : St X (g (.i (u + v))) n rest Q) : St X l n (.AugAssign (.Name x p₁) .Add e pos :: rest) Q :=
  St.aug (w := u + v) hX hl he (fun _ _ _ _ _ h => by with_reducible exact iadd_int h) P k
theorem St.augShl {u : Int} {v j : Nat} (hX : Ok Γ X d sc ns cl) (hl : Look ns l x (.i u)) (he : EvS X l n e (.i v)) (hx : u.natAbs < 2 ^ j) (hj : j + v ≤ 2 ^ 27) {g : SV → Loc} (P : Put ns l x g) (k : St X (g (.i (u * 2 ^ v))) n rest Q) : St X l n (.AugAssign (.Name x p₁) .LShift e pos :: rest) Q :=
  St.aug (w := u * 2 ^ v) hX hl he (fun _ _ _ _ _ h => ilshift_int (by (first | decide | lia | omega)) (by have := bits_of_natAbs hx; (first | decide | lia | omega)) (by simpa using h)) P k
theorem St.augOr {u v : Int} (hX : Ok Γ X d sc ns cl) (hl : Look ns l x (.i u)) (he : EvS X l n e (.i v)) {g : SV → Loc} (P : Put ns l x g) (k : St X (g (.i (Builtin.bitOr u v))) n rest Q) : St X l n (.AugAssign (.Name x p₁) .BitOr e pos :: rest) Q :=
  St.aug (w := Builtin.bitOr u v) hX hl he (fun _ _ _ _ _ h => by with_reducible exact ior_int h) P k
theorem St.augXor {u v : Int} (hX : Ok Γ X d sc ns cl) (hl : Look ns l x (.i u)) (he : EvS X l n e (.i v)) {g : SV → Loc} (P : Put ns l x g) (k : St X (g (.i (Builtin.bitXor u v))) n rest Q) : St X l n (.AugAssign (.Name x p₁) .BitXor e pos :: rest) Q :=
  St.aug (w := Builtin.bitXor u v) hX hl he (fun _ _ _ _ _ h => by with_reducible exact ixor_int h) P k

theorem St.ret {T : Value → Loc → Led → Prop} (he : Ev X l n e T) (k : ∀ v l₁ n₁, T v l₁ n₁ → ∃ n₂, Led.le n₂ n₁ ∧ Q (.ret v) l₁ n₂) : St X l n (.Return (some e) pos :: rest) Q := by
  refine St.cons (.mk fun r s R E G q => wpAny_Return_some (he.run r s _ E G ?_))
  intro v l₁ n₁ h₁ tk₁ hv G₁
  obtain ⟨n₂, h2, h3⟩ := k v l₁ n₁ hv
  exact q _ l₁ n₂ h₁ tk₁ h3 (G₁.le (Led.le_append h2 r))
theorem St.retS (he : EvS X l n e a) (k : ∀ v, a.is (some v) → ∃ n₂, Led.le n₂ n ∧ Q (.ret v) l n₂) : St X l n (.Return (some e) pos :: rest) Q :=
  St.ret he fun v l₁ n₁ ⟨h1, h2, h3⟩ => by subst h2; subst h3; exact k v h1
theorem St.retNone (k : ∃ n₂, Led.le n₂ n ∧ Q (.ret .none) l n₂) : St X l n (.Return none pos :: rest) Q := by
  refine St.cons (.mk fun r s R E G q => wpAny_Return_none ?_)
  obtain ⟨n₂, h2, h3⟩ := k
  have := q (.ret .none) l n₂ s.heap s.toks h3 (G.le (Led.le_append h2 r))
  exact this

theorem St.ite {b : Bool} (ht : EvT X l n e b) (h1 : b = true → St X l n body (Then X rest Q)) (h2 : b = false → St X l n orelse (Then X rest Q)) : St X l n (.If e body orelse pos :: rest) Q := by
  refine St.cons (.mk fun r s R E G q => wpAny_If (ht.run r s _ E G ?_))
  rintro c l₁ n₁ h₁ tk₁ ⟨rfl, rfl, rfl⟩ G₁
  cases c with
  | true => exact (h1 rfl).run r _ _ E G₁ fun a l' n' h' tk' x G' => q a l' n' h' tk' x G'
  | false => exact (h2 rfl).run r _ _ E G₁ fun a l' n' h' tk' x G' => q a l' n' h' tk' x G'

theorem exec_Break (env : Env) (pos : Pos) : exec (.Break pos) env = (do standAt pos; pure .brk) := rfl
theorem St.brk (k : Q .brk l n) : St X l n (.Break pos :: rest) Q := by
  refine St.cons (.mk fun r s R E G q => ?_)
  rw [exec_Break]
  refine wpAny_bind (wpAny_standAt (wpAny_pure ?_))
  have := q .brk l n s.heap s.toks k G
  exact this

theorem St.expr {T : Value → Loc → Led → Prop} (he : Ev X l n e T) (k : ∀ v l₁ n₁, T v l₁ n₁ → (∀ a, v ≠ .ref a) ∧ St X l₁ n₁ rest Q)
    (hi : interactive X.env = false) (hs : swapsWith e none pos.line X.env = pure false := by rfl) : St X l n (.Expr e pos :: rest) Q := by
  refine St.cons (.mk fun r s R E G q => wpAny_Expr (he.run r s _ E G ?_) hi hs)
  intro v l₁ n₁ h₁ tk₁ hv G₁
  obtain ⟨h2, h3⟩ := k v l₁ n₁ hv
  have := q .next l₁ n₁ h₁ tk₁ h3 G₁
  cases v <;> first | exact this | exact (h2 _ rfl).elim

/-- a while, by a word over the state and a measure -/
theorem St.while_ {α : Type} (I : α → Loc → Led → Prop) (μ : α → Nat) (a₀ : α) (h0 : I a₀ l n)
    (step : ∀ a l n, I a l n → ∃ b, EvT X l n e b ∧
      (b = true → St X l n body (fun f l' n' => match f with
        | .next | .cont => ∃ a', μ a' < μ a ∧ I a' l' n'
        | .brk => St X l' n' rest Q
        | .ret v => Q (.ret v) l' n')) ∧
      (b = false → St X l n orelse (Then X rest Q))) : St X l n (.While e body orelse pos :: rest) Q := by
  refine St.cons (.mk fun r s R E G q => wpAny_While ?_)
  refine codeAny_whileLoop (fun k s' => ∃ a l n h tk, μ a = k ∧ I a l n ∧ Good X l (n ++ r) h ∧ s' = { s with heap := h, toks := tk }) ?_ (μ a₀) ⟨a₀, l, n, s.heap, s.toks, rfl, h0, G, rfl⟩
  rintro k s' ⟨a, l, n, h, tk, rfl, hI, G, rfl⟩
  obtain ⟨b, ht, h1, h2⟩ := step a l n hI
  refine ht.run r _ _ _ G ?_
  rintro c l₁ n₁ h₁ tk₁ ⟨rfl, rfl, rfl⟩ G₁
  cases c with
  | true =>
    refine (h1 rfl).run r _ _ _ G₁ ?_
    intro f l₂ n₂ h₂ tk₂ hf G₂
    cases f with
    | next => obtain ⟨a', m1, m2⟩ := hf; exact ⟨_, m1, a', l₂, n₂, h₂, tk₂, rfl, m2, G₂, rfl⟩
    | cont => obtain ⟨a', m1, m2⟩ := hf; exact ⟨_, m1, a', l₂, n₂, h₂, tk₂, rfl, m2, G₂, rfl⟩
    | brk => exact q _ l₂ n₂ h₂ tk₂ hf G₂
    | ret v => exact q _ l₂ n₂ h₂ tk₂ hf G₂
  | false =>
    exact (h2 rfl).run r _ _ _ G₁ fun f l₂ n₂ h₂ tk₂ hf G₂ => q _ l₂ n₂ h₂ tk₂ hf G₂
end
end Mine
namespace Mine
open PySem PySem.W PyProof.Rows PySem.Calls PySem.Spec
set_option linter.unusedVariables false

/-! ### Frames -/
section
variable {X : Cx} {l : Loc} {n : Led} {h : Heap}
theorem Good.notin (G : Good X l n h) {b : Addr} {o : Obj} (e : X.g.get? b = some o) : b ∉ n.at := fun q => by
  obtain ⟨p, hp, rfl⟩ := List.mem_map.mp q
  rw [(G.nw p hp).2.2] at e; cases e
theorem Good.stays (G : Good X l n h) {b : Addr} {o : Obj} (e : X.g.get? b = some o) : (hideAll h n.at).get? b = some o := by
  obtain ⟨⟨vs, f, F⟩, _⟩ := id G
  exact hideAll_get _ (F.keep b o e) (G.notin e)
/-- back in the frame -/
theorem Good.back (G : Good X l n h) {h' : Heap} {m : Led} (k : ∀ b o, (hideAll h n.at).get? b = some o → h'.get? b = some o)
    (hm : ∀ p ∈ m, (∃ o, h'.get? p.1 = some o ∧ p.2 o) ∧ (hideAll h n.at).get? p.1 = none) (hd : m.at.Nodup) : Good X l m h' := by
  obtain ⟨⟨vs, f, F⟩, N, _⟩ := id G
  obtain ⟨oL, es, ep, hL, r⟩ := F.ns
  have hLn : X.L ∉ n.at := fun q => by
    obtain ⟨p, hp, e⟩ := List.mem_map.mp q
    exact (N p hp).2.1 e
  have hLg := hideAll_get _ hL hLn
  refine ⟨⟨vs, f, ⟨oL, es, ep, k _ _ hLg, r⟩, fun b o e => k b o (G.stays e), F.above⟩, fun p hp => ⟨(hm p hp).1, fun q => ?_, ?_⟩, hd⟩
  · have := (hm p hp).2
    rw [q, hLg] at this; cases this
  · cases q : X.g.get? p.1 with
    | none => rfl
    | some o => have := (hm p hp).2; rw [G.stays q] at this; cases this
theorem Good.hidden (_G : Good X l n h) {p} (hp : p ∈ n) : (hideAll h n.at).get? p.1 = none := hideAll_none _ (List.mem_map_of_mem (f := fun p : Addr × (Obj → Prop) => p.1) hp)
end

theorem fits_len : ∀ {l : Loc} {vs : List (Option Value)}, fits l vs → l.length = vs.length
  | [], [], _ => rfl
  | _ :: _, _ :: _, h => congrArg (· + 1) (fits_len h.2)
  | [], _ :: _, h => h.elim
  | _ :: _, [], h => h.elim
theorem fits_append : ∀ {l l' : Loc} {vs vs' : List (Option Value)}, fits l vs → fits l' vs' → fits (l ++ l') (vs ++ vs')
  | [], _, [], _, _, h => h
  | _ :: _, _, _ :: _, _, h, k => ⟨h.1, fits_append h.2 k⟩
  | [], _, _ :: _, _, h, _ => h.elim
  | _ :: _, _, [], _, h, _ => h.elim
theorem fits_any : ∀ k : Nat, fits (List.replicate k .any) (List.replicate k none)
  | 0 => trivial
  | k + 1 => ⟨trivial, fits_any k⟩

theorem mp_none : ∀ (ns : List Str) (k : Nat) (y : Str), mp ns (List.replicate k none) y = none
  | [], _, _ => rfl
  | _ :: _, 0, _ => rfl
  | m :: ns, k + 1, y => by rw [List.replicate_succ, mp]; split; rfl; exact mp_none ns k y
theorem lookup_append' (y : Str) (b : List (Str × Value)) (c : List (Str × Value)) : (b ++ c).lookup y = (b.lookup y).or (c.lookup y) := by
  induction b with
  | nil => rfl
  | cons p b ih =>
    obtain ⟨x, v⟩ := p
    rw [List.cons_append, List.lookup_cons, List.lookup_cons]
    split
    · rfl
    · exact ih
theorem lookup_none' (y : Str) : ∀ (b : List (Str × Value)), y ∉ b.map (·.1) → b.lookup y = none
  | [], _ => rfl
  | (x, v) :: b, h => by
    rw [List.lookup_cons]
    have hx : (y == x) = false := by
      cases q : y == x with
      | false => rfl
      | true => exact absurd (show y ∈ ((x, v) :: b).map (·.1) by rw [eq_of_beq q, List.map_cons]; exact .head _) h
    rw [hx]
    exact lookup_none' y b fun m => h (List.mem_cons_of_mem _ m)
theorem zip_fst_sub : ∀ (ps : List Str) (vs : List Value) (y : Str), y ∈ (ps.zip vs).map (·.1) → y ∈ ps
  | [], _, _, h => by simp at h
  | _ :: _, [], _, h => by simp at h
  | p :: ps, v :: vs, y, h => by
    simp only [List.zip_cons_cons, List.map_cons, List.mem_cons] at h
    rcases h with rfl | h
    · exact .head _
    · exact .tail _ (zip_fst_sub ps vs y h)
/-- the frame's map at the start -/
theorem mp_start : ∀ (ps : List Str) (vs : List Value) (qs : List Str), (ps ++ qs).Nodup → ps.length = vs.length →
    ∀ y, (ps.zip vs).reverse.lookup y = mp (ps ++ qs) (vs.map some ++ List.replicate qs.length none) y
  | [], [], qs, _, _, y => by simp only [List.zip_nil_right, List.reverse_nil, List.lookup_nil, List.nil_append, List.map_nil]; exact (mp_none qs _ y).symm
  | [], _ :: _, _, _, h, _ => by cases h
  | _ :: _, [], _, _, h, _ => by cases h
  | p :: ps, v :: vs, qs, d, h, y => by
    rw [List.cons_append] at d
    obtain ⟨d1, d2⟩ := List.nodup_cons.mp d
    have ih := mp_start ps vs qs d2 (Nat.succ.inj h) y
    rw [List.zip_cons_cons, List.reverse_cons, lookup_append', List.cons_append, List.map_cons, List.cons_append, mp, ← ih]
    by_cases hy : y = p
    · subst hy
      rw [if_pos rfl, lookup_none' y]
      · simp
      · rw [List.map_reverse, List.mem_reverse]
        exact fun m => d1 (List.mem_append_left _ (zip_fst_sub _ _ _ m))
    · rw [if_neg hy]
      have : ([(p, v)] : List (Str × Value)).lookup y = none := by
        rw [List.lookup_cons]
        have hx : (y == p) = false := by simpa using hy
        rw [hx]; rfl
      rw [this, Option.or_none]

/-! ### Calls of the text's own defs -/
def retv : Flow → Value
  | .ret v => v
  | _ => .none

/-- what a call gives: 'as' what is known of the arguments -/
def Fn (Γ : Gd) (d : Nat) (f : Value) (as : Loc) (n : Led) (Q : Value → Led → Prop) : Prop :=
  ∀ (X : Cx) sc ns cl (l : Loc) (vs : List Value), Ok Γ X d sc ns cl → fits as (vs.map some) → WP X (call f vs) l n (fun v l' n' => l' = l ∧ Q v n')

theorem Ok.enter {Γ : Gd} {X : Cx} {d : Nat} {sc scope : Scope} {ns names : List Str} {cl cl' : List (Str × Addr)} {l : Loc} {n : Led} {h : Heap} {env : Env} {L : Addr} (hX : Ok Γ X (d + 1) sc ns cl) (G : Good X l n h)
    (hs : env.scope = scope) (hc : env.cells = cl') (kd : scope.kind = .function) (lo : env.locals = L) (gl : env.globals = mainGlobals) (bl : env.builtins = builtinsNs) (nod : names.Nodup) (loc : ∀ x ∈ names, scope.names.lookup x = some .local) (dbg : ∀ x ∈ names, (x == ("__debug__" : Str)) = false) :
    Ok Γ ⟨X.prog, X.w, X.A.deeper env, hideAll h n.at, L, env, names⟩ d scope names cl' where
  hp := hX.hp
  hw := hX.hw
  room := by have := hX.room; show X.A.depth + 1 + d < _; (first | decide | lia | omega)
  units := by have := hX.units; show X.A.units + 3 + 10 * d + 80 < _; (first | decide | lia | omega)
  kin := fun a o e => G.stays (hX.kin a o e)
  top := let ⟨p, loose, mean, mg, mb, T⟩ := hX.top; ⟨p, loose, mean, mg, mb, T.keeps fun b o e => G.stays e⟩
  hh := hX.hh
  hs := hs
  hn := rfl
  hc := hc
  kd := kd
  lo := lo
  gl := gl
  bl := bl
  nod := nod
  loc := loc
  dbg := dbg

theorem Fn.plain {Γ : Gd} {d : Nat} {f : Addr} {as : Loc} {n : Led} {Q : Value → Led → Prop} {fo : Obj} {name qual : Str} {params : Arguments} {body : List Stmt} {scope : Scope} {cl : List (Str × Addr)} {dV kV doc pm cdv ct : Value} {an : Option Addr}
    (ps qs names : List Str) (hnm : ps ++ qs = names) (l0 : Loc) (hl0 : as ++ List.replicate qs.length .any = l0)
    (ho : ∀ h, Γ.K.In h → h.get? f = some fo) (hd : fo.data = .func (fnX name qual params body scope cl dV kV doc pm an cdv ct)) (hcd : codeIn Γ.K cdv qual = true)
    (hlen : ps.length = as.length) (hps : params.args.map (·.arg) = ps)
    (hbind : ∀ vs : List Value, vs.length = as.length → bindArgs (fnX name qual params body scope cl dV kV doc pm an cdv ct) ⟨vs, []⟩ = pure (ps.zip vs))
    (nod : names.Nodup) (loc : ((ps ++ qs).all fun x => scope.names.lookup x == some .local && !(x == ("__debug__" : Str))) = true)
    (hcell : (scope.names.all fun x => !(x.2 == .cell)) = true) (hco : scope.isCoroutine = false) (hgen : scope.isGenerator = false) (hk : scope.kind = .function)
    (hb : ∀ X : Cx, Ok Γ X d scope names cl → St X l0 n body (fun fl _ n' => Q (retv fl) n')) : Fn Γ (d + 1) (.ref f) as n Q := by
  subst hnm
  subst hl0
  have dbg : ∀ x ∈ ps ++ qs, (x == ("__debug__" : Str)) = false := fun x hx => by
    have := List.all_eq_true.mp loc x hx
    rw [Bool.and_eq_true] at this
    simpa using this.2
  replace loc : ∀ x ∈ ps ++ qs, scope.names.lookup x = some .local := fun x hx => by
    have := List.all_eq_true.mp loc x hx
    rw [Bool.and_eq_true] at this
    exact beq_iff_eq.mp this.1
  intro X sc ns cl' l vs hX hfit
  refine .mk fun r s R E G q => wpAny_call ?_
  replace hcell : ∀ x ∈ scope.names, x.2 ≠ .cell := fun x hx e => by
    have := List.all_eq_true.mp hcell x hx
    rw [e] at this; cases this
  have hvl : vs.length = as.length := by rw [fits_len hfit, List.length_map]
  obtain ⟨p, loose, mean, mg, mb, T⟩ := hX.top
  obtain ⟨⟨us, fu, F⟩, N, D⟩ := id G
  have hkin : Γ.K.In s.heap := fun a o e => F.keep a o (hX.kin a o e)
  refine codeAny_call_def (fd := fnX name qual params body scope cl dV kV doc pm an cdv ct) (body := body) (binds := ps.zip vs) (by have := hX.room; (first | decide | lia | omega)) (ho _ hkin) hd (T.nolimit.keeps F.keep) (codeRec_of hkin hcd) rfl (.of_eq (hbind vs hvl)) hcell
    (fun x hx => loc _ (List.mem_append_left _ (zip_fst_sub ps vs x.1 (List.mem_map_of_mem (f := (·.1)) hx)))) (fun h₁ hns hk₁ => ?_) hco hgen hk
  have okX := hX.enter (names := ps ++ qs) (cl' := cl) (L := s.heap.objs.size) (env := envX qual scope s.heap.objs.size f cdv cl) G rfl rfl hk rfl rfl rfl nod loc dbg
  have G' : Good ⟨X.prog, X.w, X.A.deeper (envX qual scope s.heap.objs.size f cdv cl), hideAll s.heap (Led.at (n ++ r)), s.heap.objs.size, envX qual scope s.heap.objs.size f cdv cl, ps ++ qs⟩ (as ++ List.replicate qs.length .any) (n ++ r) h₁ := by
    refine ⟨⟨vs.map some ++ List.replicate qs.length none, fits_append hfit (fits_any _), ⟨?_, fun b o e => hk₁ b o (of_hideAll _ e), Nat.le_of_eq (hideAll_size _ _)⟩⟩, fun p hp => ?_, D⟩
    · have e := funext (mp_start ps vs qs nod (by rw [hlen, hvl]))
      show h₁.Ns _ (mp (ps ++ qs) _)
      rw [← e]; exact hns
    · obtain ⟨⟨o, h1, h2⟩, h3, h4⟩ := N p hp
      exact ⟨⟨o, hk₁ _ _ h1, h2⟩, Nat.ne_of_lt (Heap.lt_size h1), G.hidden hp⟩
  refine (hb _ okX).run r _ _ _ G' ?_
  intro fl l' n' h' tk' hq G₂
  have back : Good X l (n' ++ r) h' := by
    obtain ⟨⟨us', _, F'⟩, N', D'⟩ := G₂
    exact G.back F'.keep (fun p hp => ⟨(N' p hp).1, (N' p hp).2.2⟩) D'
  have := q (retv fl) l n' h' tk' ⟨rfl, hq⟩ back
  cases fl <;> exact this
end Mine
namespace Mine
open PySem PySem.W PyProof.Rows PySem.Calls PySem.Spec
set_option linter.unusedVariables false

/-! lists of a known length -/
theorem fits0 {vs : List Value} : fits [] (vs.map some) → vs = [] := by
  cases vs with
  | nil => exact fun _ => rfl
  | cons v vs => exact False.elim
theorem fitsC {a : SV} {l : Loc} {vs : List Value} : fits (a :: l) (vs.map some) → ∃ v us, vs = v :: us ∧ a.is (some v) ∧ fits l (us.map some) := by
  cases vs with
  | nil => exact False.elim
  | cons v vs => exact fun h => ⟨v, vs, rfl, h.1, h.2⟩
theorem fits1 {a : SV} {vs : List Value} (h : fits [a] (vs.map some)) : ∃ v, vs = [v] ∧ a.is (some v) := by
  obtain ⟨v, us, rfl, h1, h2⟩ := fitsC h
  exact ⟨v, by rw [fits0 h2], h1⟩
theorem fits2 {a b : SV} {vs : List Value} (h : fits [a, b] (vs.map some)) : ∃ v u, vs = [v, u] ∧ a.is (some v) ∧ b.is (some u) := by
  obtain ⟨v, us, rfl, h1, h2⟩ := fitsC h
  obtain ⟨u, rfl, h3⟩ := fits1 h2
  exact ⟨v, u, rfl, h1, h3⟩
theorem fits3 {a b c : SV} {vs : List Value} (h : fits [a, b, c] (vs.map some)) : ∃ v u w, vs = [v, u, w] ∧ a.is (some v) ∧ b.is (some u) ∧ c.is (some w) := by
  obtain ⟨v, us, rfl, h1, h2⟩ := fitsC h
  obtain ⟨u, w, rfl, h3⟩ := fits2 h2
  exact ⟨v, u, w, rfl, h1, h3⟩
theorem onC {α : Type} {P : List α → Prop} {k : Nat} (h : ∀ a us, us.length = k → P (a :: us)) : ∀ vs : List α, vs.length = k + 1 → P vs := fun vs e => by
  cases vs with
  | nil => exact absurd e (Nat.succ_ne_zero k).symm
  | cons a us => exact h a us (Nat.succ.inj e)
theorem on0 {α : Type} {P : List α → Prop} (h : P []) : ∀ vs : List α, vs.length = 0 → P vs := fun vs e => by
  cases vs with
  | nil => exact h
  | cons a us => exact absurd e (Nat.succ_ne_zero _)
theorem on1 {α : Type} {P : List α → Prop} (h : ∀ a, P [a]) : ∀ vs : List α, vs.length = 1 → P vs := onC fun a => on0 (h a)
theorem on2 {α : Type} {P : List α → Prop} (h : ∀ a b, P [a, b]) : ∀ vs : List α, vs.length = 2 → P vs := onC fun a => on1 (P := fun t => P (a :: t)) (h a)
theorem on3 {α : Type} {P : List α → Prop} (h : ∀ a b c, P [a, b, c]) : ∀ vs : List α, vs.length = 3 → P vs := onC fun a => on2 (P := fun t => P (a :: t)) (h a)
theorem on4 {α : Type} {P : List α → Prop} (h : ∀ a b c d, P [a, b, c, d]) : ∀ vs : List α, vs.length = 4 → P vs := onC fun a => on3 (P := fun t => P (a :: t)) (h a)
theorem on5 {α : Type} {P : List α → Prop} (h : ∀ a b c d e, P [a, b, c, d, e]) : ∀ vs : List α, vs.length = 5 → P vs := onC fun a => on4 (P := fun t => P (a :: t)) (h a)

theorem Ok.mono {Γ : Gd} {X : Cx} {d d' : Nat} {sc : Scope} {ns : List Str} {cl : List (Str × Addr)} (hX : Ok Γ X d sc ns cl) (h : d' ≤ d) : Ok Γ X d' sc ns cl :=
  { hX with room := by have := hX.room; (first | decide | lia | omega), units := by have := hX.units; (first | decide | lia | omega) }

/-! ### Arguments and calls -/
def EvA (X : Cx) (l : Loc) (n : Led) (es : List Expr) (as : Loc) : Prop :=
  ∀ pos, WP X (spliced (backTo pos (starEach es X.env))) l n (fun vs l' n' => fits as (vs.map some) ∧ l' = l ∧ n' = n)

section
variable {Γ : Gd} {X : Cx} {d d' : Nat} {sc : Scope} {ns : List Str} {cl : List (Str × Addr)} {l l' : Loc} {n m n' : Led} {x : Str} {pos p₁ p₂ : Pos} {a b : SV} {as : Loc} {e e' : Expr} {es : List Expr}

theorem EvA.nil : EvA X l n [] [] := fun pos => .mk fun r s R E G q => spliced_nil (q [] l n s.heap s.toks ⟨trivial, rfl, rfl⟩ G)
theorem EvA.cons (h : EvS X l n e a) (t : EvA X l n es as) (he : starEach (e :: es) X.env = (false, eval e X.env) :: starEach es X.env := by rfl) : EvA X l n (e :: es) (a :: as) := fun pos => .mk fun r s R E G q => by
  rw [he]
  refine spliced_cons (h.run r s _ E G ?_)
  rintro v l₁ n₁ h₁ tk₁ ⟨hv, rfl, rfl⟩ G₁
  refine (t pos).run r _ _ E G₁ ?_
  rintro vs l₂ n₂ h₂ tk₂ ⟨hvs, rfl, rfl⟩ G₂
  exact q (v :: vs) l₂ n₂ h₂ tk₂ ⟨⟨hv, hvs⟩, rfl, rfl⟩ G₂

/-- the args' trees have no star -/
theorem plain_args (he : (starEach es X.env).any (·.1) = false) : (backTo pos (starEach es X.env)).any (·.1) = false := by
  unfold backTo
  rw [List.any_map]
  exact he

theorem Ev.callK {f : Addr} {Q : Value → Loc → Led → Prop} (hX : Ok Γ X d sc ns cl) (hf : EvS X l n (.Name x p₁) (.v (.ref f))) (hk : keepIn Γ.K (.ref f) = true) (ha : EvA X l n (e :: es) as)
    (hc : ∀ vs, fits as (vs.map some) → WP X (call (.ref f) vs) l n Q) (he : starEach (e :: es) X.env = (false, eval e X.env) :: starEach es X.env := by rfl) (hpl : (starEach es X.env).any (·.1) = false := by rfl) : Ev X l n (.Call (.Name x p₁) (e :: es) [] pos) Q := .mk fun r s R E G q => by
  refine Call_Name rfl (hf.run r s _ E G ?_)
  rintro v l₁ n₁ h₁ tk₁ ⟨hv, rfl, rfl⟩ G₁
  cases hv
  refine callWith_K (K := Γ.K) (h₀ := X.g) hX.kin hk ?_ he (plain_args hpl)
  refine (ha pos).run r _ _ E G₁ ?_
  rintro vs l₂ n₂ h₂ tk₂ ⟨hvs, rfl, rfl⟩ G₂
  obtain ⟨⟨us, fu, F⟩, _⟩ := id G₂
  refine ⟨fun a o e => F.keep a o (hX.kin a o e), ?_⟩
  exact (hc vs hvs).run r _ _ E G₂ fun a l' n' h' tk' x G' => q a l' n' h' tk' x G'

/-- a def of the text's: its footprint n', the rest m -/
theorem Ev.fn {f : Addr} {Q : Value → Led → Prop} (hX : Ok Γ X d sc ns cl) (hf : EvS X l n (.Name x p₁) (.v (.ref f))) (hk : keepIn Γ.K (.ref f) = true) (ha : EvA X l n (e :: es) as)
    (hd : d' ≤ d) (hF : Fn Γ d' (.ref f) as n' Q) (hp : List.Perm (n' ++ m) n) (he : starEach (e :: es) X.env = (false, eval e X.env) :: starEach es X.env := by rfl) (hpl : (starEach es X.env).any (·.1) = false := by rfl) :
    Ev X l n (.Call (.Name x p₁) (e :: es) [] pos) (fun v l' n₂ => l' = l ∧ ∃ n₁, n₂ = n₁ ++ m ∧ Q v n₁) :=
  Ev.callK hX hf hk ha (fun vs hvs => ((((hF X sc ns cl l vs (hX.mono hd) hvs).frame m).pre (Led.le_of_perm hp)).mono fun v l₁ n₁ ⟨n₂, h1, h2, h3⟩ => ⟨h2, n₂, h1, h3⟩)) he hpl
theorem EvS.fn {f : Addr} (hX : Ok Γ X d sc ns cl) (hf : EvS X l n (.Name x p₁) (.v (.ref f))) (hk : keepIn Γ.K (.ref f) = true) (ha : EvA X l n (e :: es) as)
    (hd : d' ≤ d) (hF : Fn Γ d' (.ref f) as [] (fun v n' => a.is (some v) ∧ n' = [])) (he : starEach (e :: es) X.env = (false, eval e X.env) :: starEach es X.env := by rfl) (hpl : (starEach es X.env).any (·.1) = false := by rfl) :
    EvS X l n (.Call (.Name x p₁) (e :: es) [] pos) a :=
  WP.mono (Ev.fn hX hf hk ha hd hF (m := n) (List.Perm.refl _) he hpl) fun v l₁ n₁ ⟨h1, n₂, h2, h3, h4⟩ => ⟨h3, h1, by rw [h2, h4]; rfl⟩
theorem EvN.fn {f : Addr} {P : Obj → Prop} (hX : Ok Γ X d sc ns cl) (hf : EvS X l n (.Name x p₁) (.v (.ref f))) (hk : keepIn Γ.K (.ref f) = true) (ha : EvA X l n (e :: es) as)
    (hd : d' ≤ d) (hF : Fn Γ d' (.ref f) as [] (fun v n' => ∃ c, v = .ref c ∧ n' = [(c, P)])) (he : starEach (e :: es) X.env = (false, eval e X.env) :: starEach es X.env := by rfl) (hpl : (starEach es X.env).any (·.1) = false := by rfl) :
    EvN X l n (.Call (.Name x p₁) (e :: es) [] pos) P :=
  WP.mono (Ev.fn hX hf hk ha hd hF (m := n) (List.Perm.refl _) he hpl) fun v l₁ n₁ ⟨h1, n₂, h2, c, h3, h4⟩ => ⟨c, h3, h1, by rw [h2, h4]; rfl⟩

/-- a built-in -/
theorem Ev.blt {id : String} {Q : Value → Loc → Led → Prop} (hf : EvS X l n (.Name x p₁) (.v (.builtin id))) (ha : EvA X l n (e :: es) as)
    (hc : ∀ vs, fits as (vs.map some) → WP X (call (.builtin id) vs) l n Q) (he : starEach (e :: es) X.env = (false, eval e X.env) :: starEach es X.env := by rfl) (hpl : (starEach es X.env).any (·.1) = false := by rfl) : Ev X l n (.Call (.Name x p₁) (e :: es) [] pos) Q := .mk fun r s R E G q => by
  refine Call_Name rfl (hf.run r s _ E G ?_)
  rintro v l₁ n₁ h₁ tk₁ ⟨hv, rfl, rfl⟩ G₁
  cases hv
  have hpl' : (backTo pos (starEach (e :: es) X.env)).any (·.1) = false := by rw [he]; exact plain_args hpl
  refine callWith_builtin hpl' ?_
  have key := (ha pos).run r { s with heap := h₁, toks := tk₁ } (fun vs s₁ => wpAny (model X.prog X.w) X.A (call (.builtin id) ([] ++ vs) []) R E s₁) E G₁ (by
    rintro vs l₂ n₂ h₂ tk₂ ⟨hvs, rfl, rfl⟩ G₂
    exact (hc vs hvs).run r _ _ E G₂ fun a l' n' h' tk' x G' => q a l' n' h' tk' x G')
  rw [he] at key ⊢
  exact evalArgs_plain key
theorem Ev.typ {T : String} {Q : Value → Loc → Led → Prop} (hf : EvS X l n (.Name x p₁) (.v (.type T))) (ha : EvA X l n (e :: es) as)
    (hc : ∀ vs, fits as (vs.map some) → WP X (call (.type T) vs) l n Q) (he : starEach (e :: es) X.env = (false, eval e X.env) :: starEach es X.env := by rfl) (hpl : (starEach es X.env).any (·.1) = false := by rfl) : Ev X l n (.Call (.Name x p₁) (e :: es) [] pos) Q := .mk fun r s R E G q => by
  refine Call_Name rfl (hf.run r s _ E G ?_)
  rintro v l₁ n₁ h₁ tk₁ ⟨hv, rfl, rfl⟩ G₁
  cases hv
  have hpl' : (backTo pos (starEach (e :: es) X.env)).any (·.1) = false := by rw [he]; exact plain_args hpl
  refine PySem.callWith_type hpl' ?_
  have key := (ha pos).run r { s with heap := h₁, toks := tk₁ } (fun vs s₁ => wpAny (model X.prog X.w) X.A (call (.type T) ([] ++ vs) []) R E s₁) E G₁ (by
    rintro vs l₂ n₂ h₂ tk₂ ⟨hvs, rfl, rfl⟩ G₂
    exact (hc vs hvs).run r _ _ E G₂ fun a l' n' h' tk' x G' => q a l' n' h' tk' x G')
  rw [he] at key ⊢
  exact evalArgs_plain key
end

/-! ### Lists -/
abbrev lo (vs : List Value) (k : Nat) : Obj := { cls := .type "list", data := .seq vs.toArray k }
/-- a list of what is so known -/
def LS (a : Loc) (o : Obj) : Prop := ∃ vs k, o = lo vs k ∧ fits a (vs.map some)
abbrev LI (ns : List Int) : Obj → Prop := LS (ns.map SV.i)

theorem ints_of_fits : ∀ {ns : List Int} {vs : List Value}, fits (ns.map SV.i) (vs.map some) → IntsAre vs ns
  | [], [], _ => .nil
  | _ :: _, v :: _, ⟨⟨t, h⟩, k⟩ => by cases h; exact .cons _ _ (ints_of_fits k)
  | [], _ :: _, h => h.elim
  | _ :: _, [], h => h.elim
theorem fits_of_ints : ∀ {ns : List Int} {vs : List Value}, IntsAre vs ns → fits (ns.map SV.i) (vs.map some)
  | _, _, .nil => trivial
  | _, _, .cons _ _ h => ⟨⟨_, rfl⟩, fits_of_ints h⟩

section
variable {Γ : Gd} {X : Cx} {d d' : Nat} {sc : Scope} {ns : List Str} {cl : List (Str × Addr)} {l l' : Loc} {n m n' : Led} {x : Str} {pos p₁ p₂ : Pos} {a b : SV} {as : Loc} {e e' : Expr} {es : List Expr} {c : Addr}

/-- a list that can be read -/
def Has (X : Cx) (n : Led) (c : Addr) (as : Loc) : Prop := ∀ (l : Loc) (r : Led) (h : Heap), Good X l (n ++ r) h → ∃ vs : List Value, h.IsList c vs.toArray ∧ fits as (vs.map some)
theorem Has.mem (h : (c, LS as) ∈ n) : Has X n c as := fun l r hp G => by
  obtain ⟨o, ho, vs, k, rfl, f⟩ := G.get (List.mem_append_left _ h)
  exact ⟨vs, ⟨_, ho, rfl, k, rfl⟩, f⟩
theorem Has.base {vs : List Value} (h : X.g.IsList c vs.toArray) (f : fits as (vs.map some)) : Has X n c as := fun l r hp G => by
  obtain ⟨⟨us, fu, F⟩, _⟩ := G
  obtain ⟨o, ho, q⟩ := h
  exact ⟨vs, ⟨o, F.keep _ _ ho, q⟩, f⟩

theorem get_end (h : Heap) : h.get? h.objs.size = none := by
  cases q : h.get? h.objs.size with
  | none => rfl
  | some o => exact absurd (Heap.lt_size q) (Nat.lt_irrefl _)
theorem fits_size {vs : List Value} (hf : fits as (vs.map some)) : vs.toArray.size = as.length := by
  rw [List.size_toArray, ← List.length_map (f := some), ← fits_len hf]
theorem Good.push {h : Heap} {o : Obj} {P : Obj → Prop} (G : Good X l n h) (hf : o.isFreed = false) (hP : P o) : Good X l ((h.objs.size, P) :: n) (h.push o) :=
  Good.add G (fun b o e => Heap.get?_push_of_some _ e) (get_end h) (Heap.get?_push_size _ hf) hP
theorem WP.newList {vs : List Value} (hf : fits as (vs.map some)) (hz : as.length ≤ 2 ^ 24) : WP X (newList vs) l n (fun v l' n' => ∃ a, v = .ref a ∧ l' = l ∧ n' = (a, LS as) :: n) :=
  .mk fun r s R E G q => by
    refine wpAny_newObj_type ?_ ?_
    · exact q _ l _ _ s.toks ⟨_, rfl, rfl, rfl⟩ (Good.push G rfl ⟨vs, 0, rfl, hf⟩)
    · show vs.toArray.size ≤ sizeLine
      rw [fits_size hf]
      exact hz
theorem EvN.list (ha : EvA X l n es as) (hz : as.length ≤ 2 ^ 24 := by decide) : EvN X l n (.List es pos) (LS as) := .mk fun r s R E G q => by
  refine List_ ((ha pos).run r s _ E G ?_)
  rintro vs l₁ n₁ h₁ tk₁ ⟨hvs, rfl, rfl⟩ G₁
  exact (WP.newList hvs hz).run r _ _ E G₁ fun a l' n' h' tk' x G' => q a l' n' h' tk' x G'

theorem EvS.len (hf : EvS X l n (.Name x p₁) (.v (.builtin "len"))) (ha : EvS X l n e (.v (.ref c))) (hh : Has X n c as) (hz : as.length < 2 ^ 62) (he : starEach [e] X.env = [(false, eval e X.env)] := by rfl) :
    EvS X l n (.Call (.Name x p₁) [e] [] pos) (.i as.length) := by
  refine Ev.blt hf (EvA.cons ha EvA.nil he) (fun vs hvs => ?_) he rfl
  obtain ⟨v, rfl, hv1_⟩ := fits1 hvs
  have e1 := hv1_
  cases e1
  refine .mk fun r s R E G q => ?_
  obtain ⟨us, hL, fu⟩ := hh l r _ G
  have hsz := fits_size fu
  refine call_len_list hL (by rw [hsz]; (first | decide | lia | omega)) ?_
  rw [hsz]
  exact q _ l n s.heap _ ⟨⟨_, rfl⟩, rfl, rfl⟩ G
end
end Mine
namespace Mine
open PySem PySem.W PyProof.Rows PySem.Calls PySem.Spec
set_option linter.unusedVariables false

section
variable {X : Cx} {l : Loc} {n : Led} {h : Heap}
/-- the ledger in the library's own words -/
theorem led_objs : ∀ {n : Led} {h : Heap} {g : Heap} {L : Addr}, (∀ p ∈ n, (∃ o, h.get? p.1 = some o ∧ p.2 o) ∧ p.1 ≠ L ∧ g.get? p.1 = none) →
    ∃ os : List (Addr × Obj), os.map (·.1) = n.at ∧ News g L h os ∧ ∀ h', News g L h' os → ∀ p ∈ n, (∃ o, h'.get? p.1 = some o ∧ p.2 o) ∧ p.1 ≠ L ∧ g.get? p.1 = none
  | [], _, _, _, _ => ⟨[], rfl, News.nil, fun _ _ _ hp => nomatch hp⟩
  | p :: n, h, g, L, H => by
    obtain ⟨os, e, N, k⟩ := led_objs (n := n) fun q hq => H q (.tail _ hq)
    obtain ⟨⟨o, h1, h2⟩, h3, h4⟩ := H p (.head _)
    refine ⟨(p.1, o) :: os, congrArg (p.1 :: ·) e, fun q hq => ?_, fun h' N' q hq => ?_⟩
    · rcases List.mem_cons.mp hq with rfl | hq
      · exact ⟨h1, h3, h4⟩
      · exact N q hq
    · rcases List.mem_cons.mp hq with rfl | hq
      · exact ⟨⟨o, (N' _ (.head _)).1, h2⟩, h3, h4⟩
      · exact k h' (fun q hq => N' q (.tail _ hq)) q hq
theorem Good.news (G : Good X l n h) : ∃ m os, Fr X.g X.L h m ∧ News X.g X.L h os ∧ (∀ h', Fr X.g X.L h' m → News X.g X.L h' os → Good X l n h') ∧
    (∀ h' D o P, Fr X.g X.L h' m → News X.g X.L h' ((D, o) :: os) → h.objs.size ≤ D → P o → Good X l ((D, P) :: n) h') := by
  obtain ⟨⟨vs, f, F⟩, N, D⟩ := id G
  obtain ⟨os, e, N', k⟩ := led_objs N
  refine ⟨_, os, F, N', fun h' F' N' => ⟨⟨vs, f, F'⟩, k h' N', D⟩, fun h' D' o P F' N' lt hP => ⟨⟨vs, f, F'⟩, fun p hp => ?_, List.nodup_cons.mpr ⟨fun q => ?_, D⟩⟩⟩
  · rcases List.mem_cons.mp hp with rfl | hp
    · obtain ⟨h1, h2, h3⟩ := N' _ (.head _)
      exact ⟨⟨o, h1, hP⟩, h2, h3⟩
    · exact k h' (fun q hq => N' q (.tail _ hq)) p hp
  · obtain ⟨p, hp, e⟩ := List.mem_map.mp q
    obtain ⟨⟨o, h1, _⟩, _⟩ := N p hp
    have := Heap.lt_size h1
    have e' : p.1 = D' := e
    rw [e'] at this
    exact Nat.lt_irrefl _ (Nat.lt_of_lt_of_le this lt)
end

theorem fits_get : ∀ {as : Loc} {vs : List (Option Value)} {k : Nat} {a : SV}, fits as vs → as[k]? = some a → ∃ v, vs[k]? = some v ∧ a.is v
  | [], [], _, _, _, h => by simp at h
  | b :: as, v :: vs, 0, a, f, h => by
    simp only [List.getElem?_cons_zero, Option.some.injEq] at h
    exact ⟨v, rfl, h ▸ f.1⟩
  | b :: as, v :: vs, k + 1, a, f, h => by
    simp only [List.getElem?_cons_succ] at h ⊢
    exact fits_get f.2 h
  | [], _ :: _, _, _, f, _ => f.elim
  | _ :: _, [], _, _, f, _ => f.elim
theorem fits_getV {as : Loc} {vs : List Value} {k : Nat} {a : SV} (f : fits as (vs.map some)) (h : as[k]? = some a) : ∃ v, vs[k]? = some v ∧ a.is (some v) := by
  obtain ⟨o, h1, h2⟩ := fits_get f h
  rw [List.getElem?_map] at h1
  cases q : vs[k]? with
  | none => rw [q] at h1; cases h1
  | some v => rw [q] at h1; cases h1; exact ⟨v, rfl, h2⟩
theorem fits_none {as : Loc} {vs : List Value} {k : Nat} (f : fits as (vs.map some)) (h : as.length ≤ k) : vs[k]? = none := by
  have := fits_len f
  rw [List.length_map] at this
  exact List.getElem?_eq_none (by (first | decide | lia | omega))
theorem fits_set : ∀ {as : Loc} {vs : List (Option Value)} {k : Nat} {a : SV} {v : Option Value}, fits as vs → a.is v → fits (as.set k a) (vs.set k v)
  | [], [], _, _, _, _, _ => trivial
  | b :: as, u :: vs, 0, a, v, f, h => ⟨h, f.2⟩
  | b :: as, u :: vs, k + 1, a, v, f, h => ⟨f.1, fits_set f.2 h⟩
  | [], _ :: _, _, _, _, f, _ => f.elim
  | _ :: _, [], _, _, _, f, _ => f.elim
theorem fits_rev : ∀ {as : Loc} {vs : List (Option Value)}, fits as vs → fits as.reverse vs.reverse
  | [], [], _ => trivial
  | b :: as, u :: vs, f => by
    rw [List.reverse_cons, List.reverse_cons]
    exact fits_append (fits_rev f.2) ⟨f.1, trivial⟩
  | [], _ :: _, f => f.elim
  | _ :: _, [], f => f.elim
theorem fits_take : ∀ {as : Loc} {vs : List (Option Value)} (k : Nat), fits as vs → fits (as.take k) (vs.take k)
  | [], [], _, _ => by simp [fits]
  | b :: as, u :: vs, 0, f => trivial
  | b :: as, u :: vs, k + 1, f => ⟨f.1, fits_take k f.2⟩
  | [], _ :: _, _, f => f.elim
  | _ :: _, [], _, f => f.elim
theorem fits_drop : ∀ {as : Loc} {vs : List (Option Value)} (k : Nat), fits as vs → fits (as.drop k) (vs.drop k)
  | [], [], _, _ => by simp [fits]
  | b :: as, u :: vs, 0, f => f
  | b :: as, u :: vs, k + 1, f => fits_drop k f.2
  | [], _ :: _, _, f => f.elim
  | _ :: _, [], _, f => f.elim

section
variable {Γ : Gd} {X : Cx} {d d' : Nat} {sc : Scope} {ns : List Str} {cl : List (Str × Addr)} {l l' : Loc} {n m n' : Led} {x : Str} {pos p₁ p₂ apos : Pos} {a b : SV} {as bs : Loc} {e e' o i : Expr} {es : List Expr} {c : Addr}

/-- list.append -/
theorem WP.append {v : Value} (hv : a.is (some v)) (hz : as.length ≤ 2 ^ 24) : WP X (call (.builtin "list.append") [.ref c, v]) l ((c, LS as) :: n) (fun r l' n' => r = .none ∧ l' = l ∧ n' = (c, LS (as ++ [a])) :: n) := .mk fun r s R E G q => by
  obtain ⟨o, ho, vs, k, rfl, f⟩ := G.get (.head _)
  refine wpAny_list_append_plain (items := vs.toArray) ⟨k, ho⟩ (fun h' hl' hs => ?_) (by rw [fits_size f]; exact hz)
  obtain ⟨k', ho'⟩ := hl'
  refine q .none l _ h' s.toks ⟨rfl, rfl, rfl⟩ (Good.upd G (fun b o hb e => (hs.2 b hb).trans e) ho' ⟨vs ++ [v], k', ?_, ?_⟩)
  · rw [List.push_toArray]
  · rw [List.map_append]; exact fits_append f ⟨hv, trivial⟩

/-- o.name(es), a method of a built-in type -/
theorem Ev.meth {name : Str} {id : String} {pl : Sem Bool} {Q : Value → Loc → Led → Prop} (ho : EvS X l n o a)
    (hm : ∀ v, a.is (some v) → ∀ (r : Led) (s : Shared) (Q : Value × List Value → Shared → Prop) (E : Value → Shared → Prop), Good X l (n ++ r) s.heap → Q (.builtin id, [v]) s → wpAny (model X.prog X.w) X.A (getMethod v name pl) Q E s)
    (ha : EvA X l n (e :: es) as) (hc : ∀ v vs, a.is (some v) → fits as (vs.map some) → WP X (call (.builtin id) (v :: vs)) l n Q)
    (hev : eval (.Call (.Attribute o name apos) (e :: es) [] pos) X.env = (do
      let ov ← eval o X.env
      standAt apos.atName
      let (f, first) ← holding [ov] (getMethod ov name pl)
      callWith pos f first (backTo pos (starEach (e :: es) X.env)) (backToKw pos (keywordEach [] X.env))) := by rfl)
    (he : starEach (e :: es) X.env = (false, eval e X.env) :: starEach es X.env := by rfl) (hpl : (starEach es X.env).any (·.1) = false := by rfl) : Ev X l n (.Call (.Attribute o name apos) (e :: es) [] pos) Q := .mk fun r s R E G q => by
  refine methodCall_KW (ho.run r s _ E G ?_) hev
  rintro v l₁ n₁ h₁ tk₁ ⟨hv, rfl, rfl⟩ G₁
  refine hm v hv r _ _ E G₁ ?_
  have hpl' : (backTo pos (starEach (e :: es) X.env)).any (·.1) = false := by rw [he]; exact plain_args hpl
  refine callWith_builtin hpl' ?_
  have key := (ha pos).run r { s with heap := h₁, toks := tk₁ } (fun vs s₁ => wpAny (model X.prog X.w) X.A (call (.builtin id) ([v] ++ vs) []) R E s₁) E G₁ (by
    rintro vs l₂ n₂ h₂ tk₂ ⟨hvs, rfl, rfl⟩ G₂
    exact (hc v vs hv hvs).run r _ _ E G₂ fun a l' n' h' tk' x G' => q a l' n' h' tk' x G')
  rw [he] at key ⊢
  exact evalArgs_plain key
theorem Ev.meth0 {name : Str} {id : String} {pl : Sem Bool} {Q : Value → Loc → Led → Prop} (ho : EvS X l n o a)
    (hm : ∀ v, a.is (some v) → ∀ (r : Led) (s : Shared) (Q : Value × List Value → Shared → Prop) (E : Value → Shared → Prop), Good X l (n ++ r) s.heap → Q (.builtin id, [v]) s → wpAny (model X.prog X.w) X.A (getMethod v name pl) Q E s)
    (hc : ∀ v, a.is (some v) → WP X (call (.builtin id) [v]) l n Q)
    (hev : eval (.Call (.Attribute o name apos) [] [] pos) X.env = (do
      let ov ← eval o X.env
      standAt apos.atName
      let (f, first) ← holding [ov] (getMethod ov name pl)
      callWith pos f first (backTo pos (starEach [] X.env)) (backToKw pos (keywordEach [] X.env))) := by rfl) : Ev X l n (.Call (.Attribute o name apos) [] [] pos) Q := .mk fun r s R E G q => by
  refine methodCall_KW (ho.run r s _ E G ?_) hev
  rintro v l₁ n₁ h₁ tk₁ ⟨hv, rfl, rfl⟩ G₁
  refine hm v hv r _ _ E G₁ ?_
  refine callWith_builtin rfl (evalArgs_nil3 ?_)
  exact (hc v hv).run r _ _ E G₁ fun a l' n' h' tk' x G' => q a l' n' h' tk' x G'

/-- c.append(e) as a statement -/
theorem St.append {pl : Sem Bool} {spos : Pos} {rest : List Stmt} {Q : Flow → Loc → Led → Prop} (ho : EvS X l ((c, LS as) :: n) o (.v (.ref c))) (ha : EvS X l ((c, LS as) :: n) e a) (hz : as.length ≤ 2 ^ 24) (k : St X l ((c, LS (as ++ [a])) :: n) rest Q)
    (hi : interactive X.env = false)
    (hev : eval (.Call (.Attribute o "append" apos) [e] [] pos) X.env = (do
      let ov ← eval o X.env
      standAt apos.atName
      let (f, first) ← holding [ov] (getMethod ov "append" pl)
      callWith pos f first (backTo pos (starEach [e] X.env)) (backToKw pos (keywordEach [] X.env))) := by rfl)
    (hs : swapsWith (.Call (.Attribute o "append" apos) [e] [] pos) none spos.line X.env = pure false := by rfl)
    (he : starEach [e] X.env = [(false, eval e X.env)] := by rfl) : St X l ((c, LS as) :: n) (.Expr (.Call (.Attribute o "append" apos) [e] [] pos) spos :: rest) Q :=
  St.expr (T := fun r l' n' => r = .none ∧ l' = l ∧ n' = (c, LS (as ++ [a])) :: n)
    (Ev.meth (id := "list.append") (pl := pl) ho (fun v hv r s Q E G h => by
      cases hv
      obtain ⟨o, ho, vs, k, rfl, f⟩ := G.get (.head _)
      exact getMethod_list_append ho rfl rfl h) (EvA.cons ha EvA.nil he) (fun v vs hv hvs => by
      cases hv
      obtain ⟨u, rfl, hv1_⟩ := fits1 hvs
      exact WP.append hv1_ hz) hev he rfl)
    (fun v l₁ n₁ ⟨h1, h2, h3⟩ => ⟨fun a q => by (rw [h1] at q; exact Value.noConfusion q), by rw [h2, h3]; exact k⟩) hi hs

/-- xs[i] -/
theorem WP.getItem {k : Nat} {t : Tok} (hh : Has X n c as) (hk : k < 2 ^ 62) (ha : as[k]? = some a) : WP X (getItem (.ref c) (.int k t)) l n (fun v l' n' => a.is (some v) ∧ l' = l ∧ n' = n) := .mk fun r s R E G q => by
  obtain ⟨vs, hL, f⟩ := hh l r _ G
  obtain ⟨v, h1, h2⟩ := fits_getV f ha
  refine wpAny_getItem_list (x := v) hL (by (first | decide | lia | omega)) (by (first | decide | lia | omega)) (by rw [Int.toNat_natCast, List.getElem?_toArray]; exact h1) ?_
  have := q v l n s.heap s.toks ⟨h2, rfl, rfl⟩ G
  exact this
theorem EvS.item {k : Nat} (hv : EvS X l n o (.v (.ref c))) (hi : EvS X l n i (.i k)) (hh : Has X n c as) (hk : k < 2 ^ 62) (ha : as[k]? = some a)
    (hs : ∀ t, subscripted i false (.ref c) (.int k t) = operate [.ref c, .int k t] (PySem.getItem (.ref c) (.int k t)) := by intro _; rfl) : EvS X l n (.Subscript o i pos) a := .mk fun r s R E G q => by
  refine Subscript_ (hv.run r s _ E G ?_)
  rintro v l₁ n₁ h₁ tk₁ ⟨hv', rfl, rfl⟩ G₁
  cases hv'
  refine hi.run r _ _ E G₁ ?_
  rintro v l₂ n₂ h₂ tk₂ ⟨⟨t, hv'⟩, rfl, rfl⟩ G₂
  cases hv'
  obtain ⟨vs, hL, f⟩ := hh l₂ r _ G₂
  refine tail_any (Heap.IsList.typeIs (s := { s with heap := h₂, toks := tk₂ }) hL) slot_list_getitem.lookup ?_ (hs t)
  exact (WP.getItem hh hk ha).run r _ _ E G₂ fun a l' n' h' tk' x G' => q a l' n' h' tk' x G'

/-- xs[k] = v -/
theorem WP.setItem {k : Nat} {t : Tok} {v : Value} (hv : a.is (some v)) (hk : k < as.length) (hk2 : k < 2 ^ 62) : WP X (setItem (.ref c) (.int k t) v) l ((c, LS as) :: n) (fun _ l' n' => l' = l ∧ n' = (c, LS (as.set k a)) :: n) := .mk fun r s R E G q => by
  obtain ⟨o, ho, vs, j, rfl, f⟩ := G.get (.head _)
  have hsz := fits_size f
  refine ki_setAt ho (by (first | decide | lia | omega)) (by (first | decide | lia | omega)) (by rw [hsz]; (first | decide | lia | omega)) ?_
  have e : Obj.mapSeq (·.setIfInBounds ((k : Int)).toNat v) (lo vs j) = lo (vs.set k v) (if (vs.toArray.setIfInBounds k v).size == vs.toArray.size then j else j + 1) := by
    rw [Int.toNat_natCast]
    show Obj.mk _ _ (Data.seq _ _) _ = _
    congr 2
    apply Array.toList_inj.mp
    simp
  refine q () l _ _ s.toks ⟨rfl, rfl⟩ (Good.upd G (fun b o hb e => (Heap.get?_update_ne _ _ _ _ hb).trans e) (Heap.get?_update_self _ ho ?_) ?_)
  · rw [e]; rfl
  · rw [e]
    exact ⟨_, _, rfl, by rw [List.map_set]; exact fits_set f hv⟩
theorem St.setItem {k : Nat} {rest : List Stmt} {Q : Flow → Loc → Led → Prop} (he : EvS X l ((c, LS as) :: n) e a) (ho : EvS X l ((c, LS as) :: n) o (.v (.ref c))) (hi : EvS X l ((c, LS as) :: n) i (.i k)) (hk : k < as.length) (hk2 : k < 2 ^ 62)
    (kk : St X l ((c, LS (as.set k a)) :: n) rest Q) (hs : swapsWith e (some (.Subscript o i p₁)) pos.line X.env = pure false := by rfl) : St X l ((c, LS as) :: n) (.Assign [.Subscript o i p₁] e pos :: rest) Q := by
  refine St.cons (.mk fun r s R E G q => wpAny_Assign_Subscript (he.run r s _ E G ?_) hs)
  rintro v l₁ n₁ h₁ tk₁ ⟨hv, rfl, rfl⟩ G₁
  refine ho.run r _ _ E G₁ ?_
  rintro v₂ l₂ n₂ h₂ tk₂ ⟨hv₂, rfl, rfl⟩ G₂
  cases hv₂
  refine hi.run r _ _ E G₂ ?_
  rintro v₃ l₃ n₃ h₃ tk₃ ⟨⟨t, hv₃⟩, rfl, rfl⟩ G₃
  cases hv₃
  refine (WP.setItem hv hk hk2).run r _ _ E G₃ ?_
  rintro _ l₄ n₄ h₄ tk₄ ⟨rfl, rfl⟩ G₄
  exact q _ _ _ h₄ tk₄ kk G₄
/-- list + list -/
theorem WP.cat {c c' : Addr} (h1 : Has X n c as) (h2 : Has X n c' bs) (hz : as.length + bs.length ≤ 2 ^ 24) : WP X (binaryOp .Add (.ref c) (.ref c')) l n (fun v l' n' => ∃ a, v = .ref a ∧ l' = l ∧ n' = (a, LS (as ++ bs)) :: n) := .mk fun r s R E G q => by
  obtain ⟨vs, hL, f⟩ := h1 l r _ G
  obtain ⟨us, hL', f'⟩ := h2 l r _ G
  obtain ⟨m, os, F, N, _, k⟩ := G.news
  refine add_arrays F N hL hL' (fun h' F' N' => ?_) (by rw [fits_size f, fits_size f']; exact hz)
  refine q _ l _ h' s.toks ⟨_, rfl, rfl, rfl⟩ (k h' _ _ _ F' N' (Nat.le_refl _) ⟨vs ++ us, 0, rfl, ?_⟩)
  rw [List.map_append]; exact fits_append f f'

/-- sum -/
theorem sum_vals : ∀ {ns : List Int} {vs : List Value}, fits (ns.map SV.i) (vs.map some) → ∃ xs : Array (Int × Tok), vs.toArray = intItems xs ∧ preSum (numAt xs) xs.size = ns.sum := by
  intro ns vs f
  have hi := ints_of_fits f
  obtain ⟨xs, e⟩ := hi.allInts.items
  refine ⟨xs, e, ?_⟩
  have h1 := hi.numsOf
  rw [preSum_eq, List.take_of_length_le (by simp)]
  have e3 := nums_intItems xs
  rw [← e] at e3
  rw [← e3]
  exact congrArg List.sum h1
theorem WP.sum {ns : List Int} (hX : X.A.handled = none) (hh : Has X n c (ns.map SV.i)) : WP X (call (.builtin "sum") [.ref c]) l n (fun v l' n' => (SV.i ns.sum).is (some v) ∧ l' = l ∧ n' = n) := .mk fun r s R E G q => by
  obtain ⟨vs, hL, f⟩ := hh l r _ G
  obtain ⟨xs, e, e2⟩ := sum_vals f
  rw [e] at hL
  refine sum_intListG hX hL fun h' tk t' hk => ?_
  rw [e2]
  exact q _ l n h' tk ⟨⟨_, rfl⟩, rfl, rfl⟩ (G.keeps hk)
end
end Mine
namespace Mine
open PySem PySem.W PyProof.Rows PySem.Calls PySem.Spec
set_option linter.unusedVariables false

/-! ### Iterators -/
structure Iter (C : Cx → Led → Prop) (xs : Loc) (It : Nat → Obj → Prop) : Prop where
  next : ∀ (X : Cx) (i : Addr) (k : Nat) (l : Loc) (n : Led) (a : SV), X.A.handled = none → C X n → xs[k]? = some a →
    WP X (pyNext (.ref i)) l ((i, It k) :: n) (fun o l' n' => ∃ v, o = some v ∧ a.is (some v) ∧ l' = l ∧ n' = (i, It (k + 1)) :: n)
  done : ∀ (X : Cx) (i : Addr) (l : Loc) (n : Led), X.A.handled = none → C X n → WP X (pyNext (.ref i)) l ((i, It xs.length) :: n) (fun o l' n' => o = none ∧ l' = l ∧ n' = n)
  self : ∀ (X : Cx) (i : Addr) (k : Nat) (l : Loc) (n : Led), WP X (pyIter (.ref i)) l ((i, It k) :: n) (fun v l' n' => v = .ref i ∧ l' = l ∧ n' = (i, It k) :: n)

theorem Has.skip {X : Cx} {n : Led} {c : Addr} {as : Loc} (h : Has X n c as) (p) : Has X (p :: n) c as := fun l r hp G => h l r hp (G.le (Led.le_skip p (Led.le_refl _)))

def ItL (c : Addr) (k : Nat) (o : Obj) : Prop := o.cls = .type "list_iterator" ∧ o.data = .fields #[.ref c, .int k 0]
theorem good_ext {X : Cx} {l : Loc} {n : Led} {h h' : Heap} {i : Addr} {P : Obj → Prop} (G : Good X l ((i, P) :: n) h) (k : Heap.ExtBut i h h') : Good X l n h' := by
  obtain ⟨⟨vs, f, F⟩, N, D⟩ := G
  obtain ⟨_, h1, h2⟩ := N _ (.head _)
  obtain ⟨D1, D2⟩ := List.nodup_cons.mp D
  refine ⟨⟨vs, f, ?_, fun b o e => k b o (fun q => ?_) (F.keep b o e), F.above⟩, fun p hp => ?_, D2⟩
  · obtain ⟨oL, es, ep, hL, r⟩ := F.ns
    exact ⟨oL, es, ep, k _ _ (Ne.symm h1) hL, r⟩
  · rw [q, h2] at e; cases e
  · obtain ⟨⟨o, e1, e2⟩, r⟩ := N p (.tail _ hp)
    exact ⟨⟨o, k _ _ (fun q => D1 (List.mem_map.mpr ⟨p, hp, q⟩)) e1, e2⟩, r⟩

theorem Iter.list (c : Addr) (as : Loc) : Iter (fun X n => Has X n c as) as (ItL c) where
  next := fun X i k l n a hh hc ha => .mk fun r s R E G q => by
    obtain ⟨o, ho, h1, h2⟩ := G.get (.head _)
    obtain ⟨vs, hL, f⟩ := hc l r _ G.drop
    obtain ⟨v, e1, e2⟩ := fits_getV f ha
    refine wpAny_pyNext_list_item (x := v) ⟨o, ho, h1, h2⟩ hL (by rw [List.getElem?_toArray]; exact e1) fun h' hit hs => ?_
    obtain ⟨o', ho', h1', h2'⟩ := hit
    exact q _ l _ h' s.toks ⟨v, rfl, e2, rfl, rfl⟩ (Good.upd G (fun b o hb e => (hs.2 b hb).trans e) ho' ⟨h1', h2'⟩)
  done := fun X i l n hh hc => .mk fun r s R E G q => by
    obtain ⟨o, ho, h1, h2⟩ := G.get (.head _)
    obtain ⟨vs, hL, f⟩ := hc l r _ G.drop
    refine wpAny_pyNext_list_end hh ⟨o, ho, h1, h2⟩ hL (by rw [List.getElem?_toArray]; exact fits_none f (Nat.le_refl _)) fun h' hs => ?_
    exact q _ l n h' s.toks ⟨rfl, rfl, rfl⟩ (good_ext G hs)
  self := fun X i k l n => .mk fun r s R E G q => by
    obtain ⟨o, ho, h1, h2⟩ := G.get (.head _)
    exact wpAny_pyIter_listiter ⟨o, ho, h1, h2⟩ (q _ l _ s.heap s.toks ⟨rfl, rfl, rfl⟩ G)
theorem WP.iterList {X : Cx} {l : Loc} {n : Led} {c : Addr} {as : Loc} (hh : Has X n c as) : WP X (pyIter (.ref c)) l n (fun v l' n' => ∃ i, v = .ref i ∧ l' = l ∧ n' = (i, ItL c 0) :: n) := .mk fun r s R E G q => by
  obtain ⟨vs, hL, f⟩ := hh l r _ G
  exact wpAny_pyIter_list hL (q _ l _ _ s.toks ⟨_, rfl, rfl, rfl⟩ (Good.push G rfl ⟨rfl, rfl⟩))

/-- the ints a, a + c, .., k of them -/
def runs (a c : Int) (k : Nat) : List Int := (List.range k).map fun (j : Nat) => a + (j : Int) * c
def ItR (a c : Int) (len k : Nat) (o : Obj) : Prop := o = { cls := .type "range_iterator", dict := none, data := .fields #[rawInt (a + (k : Int) * c), rawInt ((len : Int) - k), rawInt c], slots := #[] }
theorem runs_get {a c : Int} {len k : Nat} {x : SV} (h : ((runs a c len).map SV.i)[k]? = some x) : k < len ∧ x = .i (a + (k : Int) * c) := by
  unfold runs at h
  rw [List.getElem?_map, List.getElem?_map] at h
  by_cases hk : k < len
  · rw [List.getElem?_range hk] at h
    exact ⟨hk, (Option.some.inj h).symm⟩
  · rw [List.getElem?_eq_none (by rw [List.length_range]; (first | decide | lia | omega))] at h
    cases h
theorem runs_len (a c : Int) (len : Nat) : ((runs a c len).map SV.i).length = len := by simp [runs]
theorem Iter.range (a c : Int) (len : Nat) : Iter (fun _ _ => True) ((runs a c len).map SV.i) (ItR a c len) where
  next := fun X i k l n x hh hc ha => .mk fun r s R E G q => by
    obtain ⟨o, ho, rfl⟩ := G.get (.head _)
    obtain ⟨hk, rfl⟩ := runs_get ha
    refine wpAny_pyNext_range_item ho (by (first | decide | lia | omega)) fun h' hit hs => ?_
    refine q _ l _ h' _ ⟨_, rfl, ⟨_, rfl⟩, rfl, rfl⟩ (Good.upd G (fun b o hb e => (hs.2 b hb).trans e) hit ?_)
    unfold ItR
    rw [show a + ((k + 1 : Nat) : Int) * c = a + (k : Int) * c + c by rw [Int.natCast_add, Int.add_mul]; (first | decide | lia | omega), show (len : Int) - ((k + 1 : Nat) : Int) = (len : Int) - k - 1 by (first | decide | lia | omega)]
  done := fun X i l n hh hc => .mk fun r s R E G q => by
    obtain ⟨o, ho, e⟩ := G.get (.head _)
    rw [runs_len] at e
    subst e
    refine wpAny_pyNext_range_end hh ho (by (first | decide | lia | omega)) fun h' hs => ?_
    exact q _ l n h' s.toks ⟨rfl, rfl, rfl⟩ (good_ext G hs)
  self := fun X i k l n => .mk fun r s R E G q => by
    obtain ⟨o, ho, rfl⟩ := G.get (.head _)
    exact wpAny_pyIter_rangeiter ho (q _ l _ s.heap s.toks ⟨rfl, rfl, rfl⟩ G)

def RangeIs (a b c : Int) (o : Obj) : Prop := ∃ t u v, o = { cls := .type "range", dict := none, data := .fields #[.int a t, .int b u, .int c v], slots := #[] }
theorem WP.iterRange {X : Cx} {l : Loc} {n : Led} {g : Addr} {a b c : Int} {len : Nat} (hs : Builtin.Range.small a b c = true) (hl : Builtin.Range.rangeSize a b c = len) :
    WP X (pyIter (.ref g)) l ((g, RangeIs a b c) :: n) (fun v l' n' => ∃ i, v = .ref i ∧ l' = l ∧ n' = (i, ItR a c len 0) :: n) := .mk fun r s R E G q => by
  obtain ⟨o, ho, t, u, v, rfl⟩ := G.get (.head _)
  refine wpAny_pyIter_range ho hs ?_
  refine q _ l _ _ s.toks ⟨_, rfl, rfl, rfl⟩ (Good.push G.drop rfl ?_)
  unfold ItR
  rw [hl]
  simp
section
variable {Γ : Gd} {X : Cx} {d d' : Nat} {sc : Scope} {ns : List Str} {cl : List (Str × Addr)} {l l' : Loc} {n m n' : Led} {x : Str} {pos p₁ p₂ apos : Pos} {a b : SV} {as bs : Loc} {e e' e₂ e₃ o i : Expr} {es : List Expr} {c : Addr}

theorem EvN.range1 {k : Int} (hf : EvS X l n (.Name x p₁) (.v (.type "range"))) (h1 : EvS X l n e (.i k)) (he : starEach [e] X.env = [(false, eval e X.env)] := by rfl) :
    EvN X l n (.Call (.Name x p₁) [e] [] pos) (RangeIs 0 k 1) :=
  Ev.typ hf (EvA.cons h1 EvA.nil he) (fun vs hvs => by
    obtain ⟨v, rfl, hv1_⟩ := fits1 hvs
    obtain ⟨t, e1⟩ := hv1_
    cases e1
    exact .mk fun r s R E G q => call_range_1 (q _ l _ _ _ ⟨_, rfl, rfl, rfl⟩ (Good.push G rfl ⟨_, _, _, rfl⟩))) he rfl
theorem EvN.range2 {j k : Int} (hf : EvS X l n (.Name x p₁) (.v (.type "range"))) (h1 : EvS X l n e (.i j)) (h2 : EvS X l n e₂ (.i k)) (he : starEach [e, e₂] X.env = [(false, eval e X.env), (false, eval e₂ X.env)] := by rfl) (he2 : starEach [e₂] X.env = [(false, eval e₂ X.env)] := by rfl) :
    EvN X l n (.Call (.Name x p₁) [e, e₂] [] pos) (RangeIs j k 1) :=
  Ev.typ hf (EvA.cons h1 (EvA.cons h2 EvA.nil he2) (he.trans (by rw [he2]))) (fun vs hvs => by
    obtain ⟨v, u, rfl, hv1_, hv2_⟩ := fits2 hvs
    obtain ⟨t, e1⟩ := hv1_
    cases e1
    obtain ⟨t, e1⟩ := hv2_
    cases e1
    exact .mk fun r s R E G q => call_range_2 (q _ l _ _ _ ⟨_, rfl, rfl, rfl⟩ (Good.push G rfl ⟨_, _, _, rfl⟩))) (he.trans (by rw [he2])) (by rw [he2]; rfl)
/-- a for, by a word over the turn's number, the locals and the ledger -/
theorem St.for_ {C : Cx → Led → Prop} {xs : Loc} {It : Nat → Obj → Prop} {T : Value → Loc → Led → Prop} {body orelse rest : List Stmt} {Q : Flow → Loc → Led → Prop} (I : Iter C xs It) (hX : Ok Γ X d sc ns cl)
    {J : Nat → Loc → Led → Prop} (he : Ev X l n e T) (hi : ∀ v l₁ n₁, T v l₁ n₁ → WP X (pyIter v) l₁ n₁ (fun v l' n' => ∃ i n₂, v = .ref i ∧ n' = (i, It 0) :: n₂ ∧ J 0 l' n₂)) (hJ : ∀ k l n, J k l n → C X n)
    (step : ∀ k a l n, xs[k]? = some a → J k l n → ∃ g, Put ns l x g ∧ St X (g a) n body (fun f l' n' => match f with
        | .next | .cont => J (k + 1) l' n'
        | .brk => St X l' n' rest Q
        | .ret v => Q (.ret v) l' n'))
    (fin : ∀ l n, J xs.length l n → St X l n orelse (Then X rest Q))
    (hs : ∀ x, foldedSetIterable e X.env x = pure x := by intro _; rfl) : St X l n (.For (.Name x p₁) e body orelse pos :: rest) Q := by
  refine St.cons (.mk fun r s R E G q => wpAny_For (he.run r s _ E G ?_) hs)
  intro v l₁ n₁ h₁ tk₁ hv G₁
  refine (hi v l₁ n₁ hv).run r _ _ E G₁ ?_
  rintro _ l₂ _ h₂ tk₂ ⟨it, n₂, rfl, rfl, hJ0⟩ G₂
  refine codeAny_forLoop (fun k s' => ∃ j l n h tk, j ≤ xs.length ∧ k = xs.length - j ∧ J j l n ∧ Good X l ((it, It j) :: n ++ r) h ∧ s' = { s with heap := h, toks := tk }) ?_ _ ⟨0, l₂, n₂, h₂, tk₂, Nat.zero_le _, rfl, hJ0, G₂, rfl⟩
  rintro k s' ⟨j, l, n, h, tk, hjl, rfl, hj, G, rfl⟩
  by_cases hlt : j < xs.length
  · refine (I.next X it j l n _ hX.hh (hJ _ _ _ hj) (List.getElem?_eq_getElem hlt)).run r _ _ _ G ?_
    rintro _ l₃ _ h₃ tk₃ ⟨v, rfl, hv, rfl, rfl⟩ G₃
    obtain ⟨g, P, hb⟩ := step j _ l₃ n (List.getElem?_eq_getElem hlt) hj
    refine wpAny_assign_Name ?_
    refine (WP.store (n := (it, It (j + 1)) :: n) hX P hv).run r _ _ _ G₃ ?_
    rintro _ l₄ _ h₄ tk₄ ⟨rfl, rfl⟩ G₄
    refine hb.run ((it, It (j + 1)) :: r) _ _ _ (G₄.le (Led.le_of_perm List.perm_middle)) ?_
    intro f l₅ n₅ h₅ tk₅ hf G₅
    have G₅' : Good X l₅ ((it, It (j + 1)) :: n₅ ++ r) h₅ := G₅.le (Led.le_of_perm List.perm_middle.symm)
    cases f with
    | next => exact ⟨xs.length - (j + 1), by (first | decide | lia | omega), j + 1, l₅, n₅, h₅, tk₅, hlt, rfl, hf, G₅', rfl⟩
    | cont => exact ⟨xs.length - (j + 1), by (first | decide | lia | omega), j + 1, l₅, n₅, h₅, tk₅, hlt, rfl, hf, G₅', rfl⟩
    | brk => exact q _ l₅ n₅ h₅ tk₅ hf G₅'.drop
    | ret v => exact q _ l₅ n₅ h₅ tk₅ hf G₅'.drop
  · have e : j = xs.length := by (first | decide | lia | omega)
    subst e
    refine (I.done X it l n hX.hh (hJ _ _ _ hj)).run r _ _ _ G ?_
    rintro _ l₃ _ h₃ tk₃ ⟨rfl, rfl, rfl⟩ G₃
    exact (fin _ _ hj).run r _ _ _ G₃ fun f l₄ n₄ h₄ tk₄ hf G₄ => q _ l₄ n₄ h₄ tk₄ hf G₄
end
end Mine
namespace Mine
open PySem PySem.W PyProof.Rows PySem.Calls PySem.Spec
set_option linter.unusedVariables false

/-! ### Comprehensions -/
def relabelS (scope sc : Scope) : Scope :=
  { scope with names := scope.names.map fun (n, k) => if (k == .free && sc.kind == .function && sc.names.lookup n == some .cell) then (n, .cell) else (n, k) }
def DictAny (o : Obj) : Prop := ∃ es ep, o.data = .dict es ep ∧ StrKeys es
theorem DictAny.ns {h : Heap} {C : Addr} {o : Obj} (ho : h.get? C = some o) (d : DictAny o) : ∃ m, h.Ns C m := let ⟨es, ep, h1, h2⟩ := d; ⟨_, o, es, ep, ho, h1, h2, fun _ => rfl⟩
def TestsAre (X : Cx) (l : Loc) (n : Led) (ifs : List Expr) (b : Bool) : Prop := (ifs = [] ∧ b = true) ∨ ∃ c, ifs = [c] ∧ EvT X l n c b

section
variable {Γ : Gd} {X : Cx} {d : Nat} {sc : Scope} {ns : List Str} {cl clc : List (Str × Addr)} {l : Loc} {n : Led} {x : Str} {px pos : Pos} {elt iter : Expr} {ifs : List Expr} {scope : Scope} {C : Cx → Led → Prop} {xs : Loc} {It : Nat → Obj → Prop} {ys : Nat → Loc}

theorem Ok.comp {Cc : Addr} {g : Heap} (hX : Ok Γ X d sc ns cl) (hg : ∀ b o, X.g.get? b = some o → g.get? b = some o) (hk : scope.kind = .function) (hx : scope.names.lookup x = some .local) (hd : (x == ("__debug__" : Str)) = false) :
    Ok Γ ⟨X.prog, X.w, X.A, g, Cc, compEnvC scope clc Cc X.env, [x]⟩ d (relabelS scope sc) [x] clc where
  hp := hX.hp
  hw := hX.hw
  room := hX.room
  units := hX.units
  kin := fun a o e => hg _ _ (hX.kin a o e)
  top := let ⟨p, loose, mean, mg, mb, T⟩ := hX.top; ⟨p, loose, mean, mg, mb, T.keeps hg⟩
  hh := hX.hh
  hs := by show relabel scope X.env = _; unfold relabel relabelS Env.kindOf; rw [hX.hs]
  hn := rfl
  hc := rfl
  kd := hk
  lo := rfl
  gl := hX.gl
  bl := hX.bl
  nod := List.nodup_cons.mpr ⟨fun h => (nomatch h), List.nodup_nil⟩
  loc := fun y hy => by
    rw [List.mem_singleton.mp hy]
    have := lookup_relabel_local (env := X.env) hx
    unfold Env.kindOf at this
    rw [hX.hs] at this
    exact this
  dbg := fun y hy => by rw [List.mem_singleton.mp hy]; exact hd

theorem perm3 (n r : Led) (a b : Addr × (Obj → Prop)) : List.Perm (n ++ (a :: b :: r)) (b :: (a :: n ++ r)) := by
  have p1 : List.Perm (n ++ (a :: b :: r)) (a :: (n ++ (b :: r))) := List.perm_middle
  have p2 : List.Perm (n ++ (b :: r)) (b :: (n ++ r)) := List.perm_middle
  exact (p1.trans (List.Perm.cons _ p2)).trans (List.Perm.swap _ _ _)

theorem comp_core {r : Led} {s : Shared} {i : Addr} {RR : Value → Addr → Result → Shared → Prop} {E : Value → Shared → Prop} (I : Iter C xs It) (hX : Ok Γ X d sc ns cl)
    (hcell : (scope.names.all fun y => !(y.2 == .cell)) = true) (hk : scope.kind = .function) (hx : scope.names.lookup x = some .local) (hd : (x == ("__debug__" : Str)) = false)
    (hC : ∀ X' : Cx, (∀ b o, X.g.get? b = some o → X'.g.get? b = some o) → C X' n) (hz : ∀ k, (ys k).length ≤ 2 ^ 24) (h0 : ys 0 = [])
    (body : ∀ X' : Cx, (∀ b o, X.g.get? b = some o → X'.g.get? b = some o) → Ok Γ X' d (relabelS scope sc) [x] clc → ∀ k a, xs[k]? = some a → ∃ b, TestsAre X' [a] n ifs b ∧
      (b = true → ∃ y, EvS X' [a] n elt y ∧ ys (k + 1) = ys k ++ [y]) ∧ (b = false → ys (k + 1) = ys k))
    (G : Good X l ((i, It 0) :: n ++ r) s.heap)
    (hRR : ∀ D Cc h' tk, Good X l ((Cc, DictAny) :: (D, LS (ys xs.length)) :: n ++ r) h' → RR (.ref D) Cc (.ok .next) { s with heap := h', toks := tk }) :
    wpAny (model X.prog X.w) X.A (newList []) (fun acc s₃ => wpAny (model X.prog X.w) X.A (newFunctionEnv scope X.env.globals clc [] X.env.qual none .none (some X.env)) (fun cenv s₄ =>
      codeAny (model X.prog X.w) X.A (.compStart (.ListComp elt [⟨.Name x px, iter, ifs, 0⟩] scope pos) 0 (.ref i) acc { cenv with scope := relabel scope X.env }) (RR acc cenv.locals) s₄) E s₃) E s := by
  have hcell' : ∀ y ∈ scope.names, y.2 ≠ .cell := fun y hy e => by
    have := List.all_eq_true.mp hcell y hy
    rw [e] at this; cases this
  refine wpAny_newObj_type (wpAny_newFunctionEnv hcell' (by intro y hy; simp at hy) (fun h₁ hns₁ hsb₁ => ?_) hk)
  dsimp only at hns₁ hsb₁ ⊢
  have G0 : Good X l ((s.heap.objs.size, LS (ys 0)) :: ((i, It 0) :: n ++ r)) (s.heap.push { cls := .type "list", data := .seq ([] : List Value).toArray }) := Good.push G rfl ⟨[], 0, rfl, by rw [h0]; trivial⟩
  generalize hD : s.heap.objs.size = D at G0
  generalize hH : s.heap.push { cls := .type "list", data := .seq ([] : List Value).toArray } = H at hns₁ hsb₁ G0 ⊢
  have keep : ∀ b o, H.get? b = some o → h₁.get? b = some o := fun b o e => hsb₁.extBut b o (Nat.ne_of_lt (Heap.lt_size e)) (Heap.get?_push_of_some _ e)
  generalize hCc : H.objs.size = Cc at hns₁ ⊢
  let N0 : Led := (D, LS (ys 0)) :: ((i, It 0) :: n ++ r)
  let g : Heap := hideAll H (Led.at N0)
  have hg : ∀ b o, X.g.get? b = some o → g.get? b = some o := fun b o e => G0.stays e
  have gk : ∀ b o, g.get? b = some o → h₁.get? b = some o := fun b o e => keep b o (of_hideAll _ e)
  have gC : g.get? Cc = none := by
    cases q : g.get? Cc with
    | none => rfl
    | some o => exact absurd (Heap.lt_size (of_hideAll _ q)) (by rw [hCc]; exact Nat.lt_irrefl _)
  let X' : Cx := ⟨X.prog, X.w, X.A, g, Cc, compEnvC scope clc Cc X.env, [x]⟩
  have okX : Ok Γ X' d (relabelS scope sc) [x] clc := hX.comp hg hk hx hd
  have G1 : Good X' [.any] N0 h₁ := by
    refine ⟨⟨[none], ⟨trivial, trivial⟩, ⟨?_, gk, ?_⟩⟩, fun p hp => ?_, G0.nd⟩
    · have e : mp [x] [none] = fun y => ([] : List (Str × Value)).reverse.lookup y := funext fun y => by
        show (if y = x then none else none) = none
        split <;> rfl
      rw [e]; exact hns₁
    · show g.objs.size ≤ Cc
      rw [← hCc]; exact Nat.le_of_eq (hideAll_size _ _)
    · obtain ⟨⟨o, e1, e2⟩, e3, e4⟩ := G0.nw p hp
      exact ⟨⟨o, keep _ _ e1, e2⟩, by show p.1 ≠ Cc; rw [← hCc]; exact Nat.ne_of_lt (Heap.lt_size e1), G0.hidden hp⟩
  have loop : ∀ h₂ tk₂, Good X' [.any] ((D, LS (ys 0)) :: ((i, It 0) :: n ++ r)) h₂ →
      codeAny (model X.prog X.w) X.A (.compLoop (.ListComp elt [⟨.Name x px, iter, ifs, 0⟩] scope pos) 0 (.ref i) (.ref D) (compEnvC scope clc Cc X.env)) (RR (.ref D) Cc) { s with heap := h₂, toks := tk₂ } := by
    intro h₂ tk₂ G1
    refine codeAny_compLoop_tests (fun k s' => ∃ j a h tk, j ≤ xs.length ∧ k = xs.length - j ∧ Good X' [a] ((D, LS (ys j)) :: ((i, It j) :: n ++ r)) h ∧ s' = { s with heap := h, toks := tk }) ?_ _ ⟨0, .any, h₂, _, Nat.zero_le _, rfl, G1, rfl⟩
    rintro k s' ⟨j, a, h, tk, hjl, rfl, Gj, rfl⟩
    have hCn : C X' n := hC X' hg
    by_cases hlt : j < xs.length
    · refine (I.next X' i j [a] n _ hX.hh hCn (List.getElem?_eq_getElem hlt)).run ((D, LS (ys j)) :: r) _ _ _ (Gj.le (Led.le_of_perm List.perm_middle)) ?_
      rintro _ l₃ _ h₃ tk₃ ⟨v, rfl, hv, rfl, rfl⟩ G₃
      obtain ⟨b, ht, h1, h2⟩ := body X' hg okX j _ (List.getElem?_eq_getElem hlt)
      refine wpAny_assign_Name ?_
      refine (WP.store (X := X') (l := [a]) (n := (i, It (j + 1)) :: n) (g := fun v => [v]) okX Put.here hv).run ((D, LS (ys j)) :: r) _ _ _ G₃ ?_
      rintro _ l₄ _ h₄ tk₄ ⟨rfl, rfl⟩ G₄
      have G₄' : Good X' [xs[j]] (n ++ ((i, It (j + 1)) :: (D, LS (ys j)) :: r)) h₄ := G₄.le (Led.le_of_perm List.perm_middle)
      have fin : ∀ h₅ tk₅, b = true → Good X' [xs[j]] (n ++ ((i, It (j + 1)) :: (D, LS (ys j)) :: r)) h₅ → wpAny (model X.prog X.w) X.A (eval elt (compEnvC scope clc Cc X.env)) (fun x s₄ =>
              wpAny (model X.prog X.w) X.A (call (.builtin "list.append") [.ref D, x]) (fun _ s₅ => ∃ m, m < xs.length - j ∧ ∃ j a h tk, j ≤ xs.length ∧ m = xs.length - j ∧ Good X' [a] ((D, LS (ys j)) :: ((i, It j) :: n ++ r)) h ∧ s₅ = { s with heap := h, toks := tk })
                (notedBy (model X.prog X.w) X.A (compEnvC scope clc Cc X.env) fun e s' => RR (.ref D) Cc (.error e) s') s₄) (notedBy (model X.prog X.w) X.A (compEnvC scope clc Cc X.env) fun e s' => RR (.ref D) Cc (.error e) s') { s with heap := h₅, toks := tk₅ } := by
        intro h₅ tk₅ hb G₅
        obtain ⟨y, hy, ey⟩ := h1 hb
        refine hy.run _ _ _ _ G₅ ?_
        rintro v₆ l₆ n₆ h₆ tk₆ ⟨hv₆, rfl, rfl⟩ G₆
        refine (WP.append (X := X') (l := [xs[j]]) (c := D) (as := ys j) (n := (i, It (j + 1)) :: n₆) hv₆ (hz j)).run r _ _ _ (G₆.le (Led.le_of_perm ?_)) ?_
        · exact (perm3 _ _ _ _).symm
        · rintro _ l₇ _ h₇ tk₇ ⟨rfl, rfl, rfl⟩ G₇
          refine ⟨xs.length - (j + 1), by (first | decide | lia | omega), j + 1, xs[j], h₇, tk₇, hlt, rfl, ?_, rfl⟩
          rw [ey]; exact G₇
      have skip : ∀ h₅ tk₅, b = false → Good X' [xs[j]] (n ++ ((i, It (j + 1)) :: (D, LS (ys j)) :: r)) h₅ → ∃ m, m < xs.length - j ∧ ∃ j a h tk, j ≤ xs.length ∧ m = xs.length - j ∧ Good X' [a] ((D, LS (ys j)) :: ((i, It j) :: n ++ r)) h ∧ ({ s with heap := h₅, toks := tk₅ } : Shared) = { s with heap := h, toks := tk } := by
        intro h₅ tk₅ hb G₅
        refine ⟨xs.length - (j + 1), by (first | decide | lia | omega), j + 1, xs[j], h₅, tk₅, hlt, rfl, ?_, rfl⟩
        rw [h2 hb]
        exact G₅.le (Led.le_of_perm (perm3 _ _ _ _).symm)
      rcases ht with ⟨rfl, rfl⟩ | ⟨c, rfl, hc⟩
      · exact wpAny_tests_nil (fin h₄ tk₄ rfl G₄')
      · refine wpAny_tests_one (hc.run _ _ _ _ G₄' ?_)
        rintro b' l₅ n₅ h₅ tk₅ ⟨rfl, rfl, rfl⟩ G₅
        cases b' with
        | true => exact fin h₅ tk₅ rfl G₅
        | false => exact skip h₅ tk₅ rfl G₅
    · have e : j = xs.length := by (first | decide | lia | omega)
      subst e
      refine (I.done X' i [a] n hX.hh hCn).run ((D, LS (ys xs.length)) :: r) _ _ _ (Gj.le (Led.le_of_perm List.perm_middle)) ?_
      rintro _ l₃ _ h₃ tk₃ ⟨rfl, rfl, rfl⟩ G₃
      have G₃' := G₃.le (Led.le_of_perm List.perm_middle.symm)
      refine hRR D Cc h₃ tk₃ ?_
      obtain ⟨⟨us, fu, F⟩, N, Dn⟩ := G₃'
      refine G0.back F.keep (fun p hp => ?_) ?_
      · rcases List.mem_cons.mp hp with rfl | hp
        · obtain ⟨o, es, ep, e1, e2, e3, _⟩ := F.ns
          exact ⟨⟨o, e1, es, ep, e2, e3⟩, gC⟩
        · exact ⟨(N p hp).1, (N p hp).2.2⟩
      · refine List.nodup_cons.mpr ⟨fun q => ?_, Dn⟩
        obtain ⟨p, hp, e⟩ := List.mem_map.mp q
        exact (N p hp).2.1 e
  refine codeAny_compStart_list (loop _ _ G1) ?_
  refine (I.self X' i 0 [.any] n).run ((D, LS (ys 0)) :: r) { s with heap := h₁, toks := s.toks + ([] : List (Str × Value)).length } _ _ (G1.le (Led.le_of_perm List.perm_middle)) ?_
  rintro v l₃ n₃ h₃ tk₃ ⟨rfl, rfl, rfl⟩ G₃
  exact loop _ _ (G₃.le (Led.le_of_perm List.perm_middle.symm))

end
end Mine
namespace Mine
open PySem PySem.W PyProof.Rows PySem.Calls PySem.Spec
set_option linter.unusedVariables false

theorem Ok.inter {Γ : Gd} {X : Cx} {d : Nat} {sc : Scope} {ns : List Str} {cl : List (Str × Addr)} (hX : Ok Γ X d sc ns cl) : interactive X.env = false := by
  unfold interactive
  rw [hX.hs, hX.kd]
  rfl

section
variable {Γ : Gd} {X : Cx} {d d' : Nat} {sc : Scope} {ns : List Str} {cl : List (Str × Addr)} {l l' : Loc} {n m n' : Led} {x y : Str} {pos p₁ p₂ tpos apos : Pos} {a b : SV} {as bs : Loc} {e e' o i : Expr} {es : List Expr} {c : Addr} {rest : List Stmt} {Q : Flow → Loc → Led → Prop}

/-! iter, next -/
theorem WP.iterCall (hh : Has X n c as) : WP X (call (.builtin "iter") [.ref c]) l n (fun v l' n' => ∃ i, v = .ref i ∧ l' = l ∧ n' = (i, ItL c 0) :: n) := .mk fun r s R E G q => by
  refine call_function_entry (by decide +kernel) (by decide +kernel) kdk_entry_iter (kdk_args_iter _) ?_
  unfold Builtin.«iter»
  refine wpAny_bind (m := someArgs "iter" 1 2 _) (wpAny_of_eq (a := [Value.ref c]) (by first | rfl | kernel_rfl!) ?_)
  show wpAny _ _ (pyIter (.ref c) >>= _) _ _ _
  obtain ⟨vs, hL, f⟩ := hh l r _ G
  refine wpAny_bind (wpAny_pyIter_list hL ?_)
  exact wpAny_pure ⟨_, rfl, q _ l _ _ s.toks ⟨_, rfl, rfl, rfl⟩ (Good.push G rfl ⟨rfl, rfl⟩)⟩

theorem wpAny_special_list_item {M : Model} {prog : Program} {w : World} {A : Around} {E : Value → Shared → Prop} {s : Shared} {it l : Addr} {i : Nat} {items : Array Value} {x : Value} {Q : Option Value → Shared → Prop} (hit : s.heap.IsListIter it l i)
    (hl : s.heap.IsList l items) (hx : items[i]? = some x)
    (hQ : ∀ h', h'.IsListIter it l (i + 1) → Heap.SameBut it s.heap h' → Q (some x) { s with heap := h' }) :
    wpAny (model prog w) A (callSpecial? (.ref it) "__next__") Q E s := by
  obtain ⟨o, ho, hc, hd⟩ := id hit
  obtain ⟨ol, hol, _, nl, hdl⟩ := hl
  refine wpAny_callSpecial?_slot (name := Str.ofString "__next__") hit.typeIs slot_listiter_next
    (wpAny_call_entry slot_listiter_next hit.typeIs entry_listiter_next ?_ (args_listiter_next _))
  show wpAny _ _ (field (.ref it) 0 >>= _) _ _ s
  refine wpAny_bind (wpAny_field ho hd (x := .ref l) rfl ?_)
  show wpAny _ _ (if (Value.ref l == Value.none) = true then _ else _) _ _ s
  rw [if_neg (show ¬ ((Value.ref l == Value.none) = true) from Bool.false_ne_true)]
  show wpAny _ _ (field (.ref it) 1 >>= _) _ _ s
  refine wpAny_bind (wpAny_field ho hd (x := .int i 0) rfl ?_)
  show wpAny _ _ (seqItems? (.ref l) >>= _) _ _ s
  refine wpAny_bind (wpAny_seqItems hol hdl ?_)
  simp only [Int.toNat_natCast, hx]
  refine wpAny_bind (wpAny_setField ho hd (by simp) (wpAny_pure ⟨x, rfl, hQ _ ?_ (Heap.SameBut.update ..)⟩))
  exact ⟨_, Heap.get?_update_self _ ho (Obj.isFreed_of_fields (Obj.data_mapFields hd _)), (Obj.cls_mapFields ..).trans hc, by
    rw [Obj.data_mapFields hd]; simp [rawInt]⟩

theorem WP.nextCall {i : Addr} {k : Nat} (hh : Has X n c as) (ha : as[k]? = some a) : WP X (call (.builtin "next") [.ref i]) l ((i, ItL c k) :: n) (fun v l' n' => a.is (some v) ∧ l' = l ∧ n' = (i, ItL c (k + 1)) :: n) := .mk fun r s R E G q => by
  obtain ⟨o, ho, h1, h2⟩ := G.get (.head _)
  obtain ⟨vs, hL, f⟩ := hh l r _ G.drop
  obtain ⟨v, e1, e2⟩ := fits_getV f ha
  have hit : s.heap.IsListIter i c k := ⟨o, ho, h1, h2⟩
  refine call_function_entry (by decide +kernel) (by decide +kernel) kdk_entry_next (kdk_args_next _) ?_
  unfold Builtin.«next»
  refine wpAny_bind (m := someArgs "next" 1 2 _) (wpAny_of_eq (a := [Value.ref i]) (by first | rfl | kernel_rfl!) ?_)
  dsimp only
  refine wpAny_bind (wpAny_specialOf (name := Str.ofString "__next__") hit.typeIs slot_listiter_next.lookup ?_)
  refine wpAny_ite_split (fun hab => absurd hab (by decide)) (fun _ => ?_)
  refine wpAny_bind (wpAny_special_list_item (M := model X.prog X.w) (x := v) hit hL (by rw [List.getElem?_toArray]; exact e1) fun h' hit' hs => ?_)
  obtain ⟨o', ho', h1', h2'⟩ := hit'
  exact wpAny_pure ⟨_, rfl, q _ l _ h' s.toks ⟨e2, rfl, rfl⟩ (Good.upd G (fun b o hb e => (hs.2 b hb).trans e) ho' ⟨h1', h2'⟩)⟩

/-! tuples -/
def TS (a : Loc) (o : Obj) : Prop := ∃ vs k, o = { cls := .type "tuple", data := .seq (List.toArray vs) k } ∧ fits a (vs.map some)
theorem EvN.divmod {j k : Int} (hy : 0 < k) (hsm : k.natAbs < 2 ^ 9000) (hf : EvS X l n (.Name x p₁) (.v (.builtin "divmod"))) (h1 : EvS X l n e (.i j)) (h2 : EvS X l n e' (.i k)) (he : starEach [e, e'] X.env = [(false, eval e X.env), (false, eval e' X.env)] := by rfl) (he2 : starEach [e'] X.env = [(false, eval e' X.env)] := by rfl) :
    EvN X l n (.Call (.Name x p₁) [e, e'] [] pos) (TS [.i (j / k), .i (j % k)]) :=
  Ev.blt hf (EvA.cons h1 (EvA.cons h2 EvA.nil he2) (he.trans (by rw [he2]))) (fun vs hvs => by
    obtain ⟨v, u, rfl, hv1_, hv2_⟩ := fits2 hvs
    obtain ⟨t, e1⟩ := hv1_
    cases e1
    obtain ⟨t, e1⟩ := hv2_
    cases e1
    refine .mk fun r s R E G q => divmod_int (by (first | decide | lia | omega)) ?_ (.inl (pylong_no hsm))
    exact q _ l _ _ _ ⟨_, rfl, rfl, rfl⟩ (Good.push G rfl ⟨[_, _], 0, rfl, ⟨_, by rw [Int.fdiv_eq_ediv_of_nonneg _ (by (first | decide | lia | omega))]⟩, ⟨_, by rw [Int.fmod_eq_emod_of_nonneg _ (by (first | decide | lia | omega))]⟩, trivial⟩)) (he.trans (by rw [he2])) (by rw [he2]; rfl)
theorem EvN.tuple {k : Nat} (ha : EvA X l n es as) (hz : as.length ≤ 2 ^ 24 := by decide) : EvN X l n (.Tuple es k pos) (TS as) := .mk fun r s R E G q => by
  refine Tuple_ ((ha pos).run r s _ E G ?_)
  rintro vs l₁ n₁ h₁ tk₁ ⟨hvs, rfl, rfl⟩ G₁
  refine wpAny_newObj_type ?_ ?_
  · exact q _ l₁ _ _ tk₁ ⟨_, rfl, rfl, rfl⟩ (Good.push G₁ rfl ⟨vs, 0, rfl, hvs⟩)
  · show vs.toArray.size ≤ sizeLine
    rw [fits_size hvs]
    exact hz

/-- x, y = e -/
theorem St.assign2 {T : Value → Loc → Led → Prop} {k : Nat} (hX : Ok Γ X d sc ns cl) (he : Ev X l n e T)
    (hk : ∀ v l₁ n₁, T v l₁ n₁ → ∃ t a b n₂ f g, v = .ref t ∧ n₁ = (t, TS [a, b]) :: n₂ ∧ Put ns l₁ x f ∧ Put ns (f a) y g ∧ St X (g b) n₂ rest Q)
    (hs : swapsWithSole [.Tuple [.Name x p₁, .Name y p₂] k tpos] e pos.line X.env = pure false := by rfl)
    (hw : swappedStores [.Tuple [.Name x p₁, .Name y p₂] k tpos] e X.env = pure none := by rfl) : St X l n (.Assign [.Tuple [.Name x p₁, .Name y p₂] k tpos] e pos :: rest) Q := by
  refine St.cons (.mk fun r s R E G q => Assign_Tuple (he.run r s _ E G ?_) hs hw)
  intro v l₁ n₁ h₁ tk₁ hv G₁
  obtain ⟨t, a, b, n₂, f, g, rfl, rfl, P1, P2, hr⟩ := hk v l₁ n₁ hv
  obtain ⟨o, ho, vs, j, rfl, fv⟩ := G₁.get (.head _)
  obtain ⟨u, w, rfl, hv1_, hv2_⟩ := fits2 fv
  refine PySem.wpAny_assign_Tuple (s := { s with heap := h₁, toks := tk₁ }) (items := #[u, w]) hX.hh ⟨_, ho, rfl, j, rfl⟩ rfl rfl fun h₂ hk₂ => ?_
  have G₂ : Good X l₁ (n₂ ++ r) h₂ := (G₁.drop).keeps fun b o e => hk₂ b o (Nat.ne_of_lt (Heap.lt_size e)) e
  show wpAny _ _ (do holding [w] (PySem.assign (.Name x p₁) X.env u); assignInOrder [PySem.assign (.Name y p₂) X.env] [w]) _ _ _
  refine wpAny_bind (wpAny_holding (wpAny_assign_Name ?_))
  refine (WP.store hX P1 hv1_).run r { s with heap := h₂, toks := tk₁ } _ E G₂ ?_
  rintro _ _ _ h₃ tk₃ ⟨rfl, rfl⟩ G₃
  show wpAny _ _ (do holding [] (PySem.assign (.Name y p₂) X.env w); assignInOrder [] []) _ _ _
  refine wpAny_bind (wpAny_holding (wpAny_assign_Name ?_))
  refine (WP.store hX P2 hv2_).run r _ _ E G₃ ?_
  rintro _ _ _ h₄ tk₄ ⟨rfl, rfl⟩ G₄
  exact wpAny_pure (q _ _ _ h₄ tk₄ hr G₄)
theorem St.assign2N {k : Nat} {f g : SV → Loc} (hX : Ok Γ X d sc ns cl) (he : EvN X l n e (TS [a, b])) (P1 : Put ns l x f) (P2 : Put ns (f a) y g) (hr : St X (g b) n rest Q)
    (hs : swapsWithSole [.Tuple [.Name x p₁, .Name y p₂] k tpos] e pos.line X.env = pure false := by rfl)
    (hw : swappedStores [.Tuple [.Name x p₁, .Name y p₂] k tpos] e X.env = pure none := by rfl) : St X l n (.Assign [.Tuple [.Name x p₁, .Name y p₂] k tpos] e pos :: rest) Q :=
  St.assign2 hX he (fun v l₁ n₁ ⟨t, h1, h2, h3⟩ => ⟨t, a, b, n, f, g, h1, h3, h2 ▸ P1, P2, hr⟩) hs hw

/-! slices -/
def PartS (X : Cx) (l : Loc) (n : Led) (p : Option Expr) (v : Option Int) : Prop := (p = none ∧ v = none) ∨ ∃ e k, p = some e ∧ v = some k ∧ EvS X l n e (.i k)
theorem PartS.none : PartS X l n none none := .inl ⟨rfl, rfl⟩
theorem PartS.some {k : Int} (h : EvS X l n e (.i k)) : PartS X l n (some e) (some k) := .inr ⟨e, k, rfl, rfl, h⟩
theorem PartS.run {p : Option Expr} {v : Option Int} (h : PartS X l n p v) : WP X (evalPart p X.env) l n (fun u l' n' => IsPart u v ∧ l' = l ∧ n' = n) := by
  rcases h with ⟨rfl, rfl⟩ | ⟨e, k, rfl, rfl, h⟩
  · exact .mk fun r s R E G q => evalPart_none_step (by have := q .none l n s.heap s.toks ⟨.none, rfl, rfl⟩ G; exact this)
  · exact .mk fun r s R E G q => evalPart_some_step (h.run r s _ E G (by
      rintro u l₁ n₁ h₁ tk₁ ⟨⟨t, hu⟩, rfl, rfl⟩ G₁
      cases hu
      exact q _ l₁ n₁ h₁ tk₁ ⟨.int _ _, rfl, rfl⟩ G₁))
theorem Ev.slice {lo hi st : Option Expr} {vlo vhi vst : Option Int} {sp : Pos} {T : Value → Loc → Led → Prop} (he : Ev X l n e T)
    (hk : ∀ v l₁ n₁, T v l₁ n₁ → ∃ c as, v = .ref c ∧ l₁ = l ∧ Has X n₁ c as ∧ n.le n₁ ∧ as.length ≤ 2 ^ 24 ∧ (∀ vs : List Value, fits as (vs.map Option.some) → fits bs ((slicePick vs.toArray vlo vhi vst).toList.map Option.some)))
    (h1 : ∀ n, PartS X l n lo vlo) (h2 : ∀ n, PartS X l n hi vhi) (h3 : ∀ n, PartS X l n st vst) (h0 : vst ≠ some 0)
    (hs : ∀ o i : Value, ∃ ops, subscripted (.Slice lo hi st sp) false o i = operate ops (PySem.getItem o i) := by intro _ _; exact ⟨_, rfl⟩) : EvN X l n (.Subscript e (.Slice lo hi st sp) pos) (LS bs) := .mk fun r s R E G q => by
  refine Subscript_ (he.run r s _ E G ?_)
  intro v l₁ n₁ g₁ tk₁ hv G₁
  obtain ⟨c, as, rfl, rfl, hh, hle, hz, hp⟩ := hk v l₁ n₁ hv
  refine wpAny_Slice ((h1 n₁).run.run r _ _ E G₁ ?_)
  rintro u₁ l₂ n₂ g₂ tk₂ ⟨p₁, rfl, rfl⟩ G₂
  refine (h2 n₂).run.run r _ _ E G₂ ?_
  rintro u₂ l₃ n₃ g₃ tk₃ ⟨p₂, rfl, rfl⟩ G₃
  refine (h3 n₃).run.run r _ _ E G₃ ?_
  rintro u₃ l₄ n₄ g₄ tk₄ ⟨p₃, rfl, rfl⟩ G₄
  obtain ⟨vs, hL, f⟩ := hh _ r _ G₄
  obtain ⟨ops, hs'⟩ := hs (.ref c) (.ref g₄.objs.size)
  refine tail_any (s := { s with heap := g₄.push { cls := .type "slice", data := .fields #[u₁, u₂, u₃] }, toks := tk₄ }) (Heap.IsList.typeIs (s := { s with heap := g₄.push { cls := .type "slice", data := .fields #[u₁, u₂, u₃] } }) (hL.push _)) slot_list_getitem.lookup ?_ hs'
  refine wpAny_getItem_list_slice (hL.push _) (Heap.IsSliceOf.new ..) p₁ p₂ p₃ h0 ?_ (by rw [fits_size f]; exact hz)
  have Gp : Good X l₄ (n₄ ++ r) (g₄.push { cls := .type "slice", data := .fields #[u₁, u₂, u₃] }) := G₄.keeps fun b o e => Heap.get?_push_of_some _ e
  have Gq := Good.push (o := { cls := .type "list", data := .seq (slicePick vs.toArray vlo vhi vst) }) (P := LS bs) Gp rfl ⟨(slicePick vs.toArray vlo vhi vst).toList, 0, by simp, hp vs f⟩
  exact q _ _ _ _ tk₄ ⟨_, rfl, rfl, rfl⟩ (Gq.le (Led.le_append (Led.le_cons _ hle) r))

theorem pick_take {vs : List Value} {k : Nat} : (slicePick vs.toArray none (some (k : Int)) none).toList = vs.take k := by
  rw [kms_pick_eq]
  unfold kms_pick kms_lo kms_hi
  have : ¬ ((k : Int) < 0) := by (first | decide | lia | omega)
  simp [this]
theorem pick_init {vs : List Value} : (slicePick vs.toArray none (some (-1)) none).toList = vs.take (vs.length - 1) := by
  rw [kms_pick_eq]
  unfold kms_pick kms_lo kms_hi
  simp
theorem pick_last {vs : List Value} : (slicePick vs.toArray (some (-1)) none none).toList = vs.drop (vs.length - 1) := by
  rw [kms_pick_eq]
  unfold kms_pick kms_lo kms_hi
  simp
  exact List.take_of_length_le (by simp)
theorem pick_rev {vs : List Value} : (slicePick vs.toArray none none (some (-1))).toList = vs.reverse := by
  rw [krv_pick]
theorem fits_lenV {vs : List Value} (f : fits as (vs.map some)) : vs.length = as.length := by rw [fits_len f, List.length_map]

theorem EvN.take {k : Nat} {kp : Pos} {j : Nat} {sp : Pos} (he : EvS X l n e (.v (.ref c))) (hh : Has X n c as) (hz : as.length ≤ 2 ^ 24) : EvN X l n (.Subscript e (.Slice none (some (.Constant (.int (k : Int)) j kp)) none sp) pos) (LS (as.take k)) :=
  Ev.slice he (fun v l₁ n₁ ⟨h1, h2, h3⟩ => by
    cases h1; subst h2; subst h3
    exact ⟨c, as, rfl, rfl, hh, Led.le_refl _, hz, fun vs f => by rw [pick_take, List.map_take]; exact fits_take k f⟩) (fun _ => PartS.none) (fun _ => PartS.some EvS.int) (fun _ => PartS.none) (by simp)
theorem EvN.init {j : Nat} {kp up sp : Pos} (he : EvS X l n e (.v (.ref c))) (hh : Has X n c as) (hz : as.length ≤ 2 ^ 24) :
    EvN X l n (.Subscript e (.Slice none (some (.UnaryOp .USub (.Constant (.int 1) j kp) up)) none sp) pos) (LS (as.take (as.length - 1))) :=
  Ev.slice he (fun v l₁ n₁ ⟨h1, h2, h3⟩ => by
    cases h1; subst h2; subst h3
    exact ⟨c, as, rfl, rfl, hh, Led.le_refl _, hz, fun vs f => by rw [pick_init, List.map_take, fits_lenV f]; exact fits_take _ f⟩) (fun _ => PartS.none) (fun _ => PartS.some (EvS.neg EvS.int)) (fun _ => PartS.none) (by simp)
theorem EvN.last {j : Nat} {kp up sp : Pos} (he : EvS X l n e (.v (.ref c))) (hh : Has X n c as) (hz : as.length ≤ 2 ^ 24) :
    EvN X l n (.Subscript e (.Slice (some (.UnaryOp .USub (.Constant (.int 1) j kp) up)) none none sp) pos) (LS (as.drop (as.length - 1))) :=
  Ev.slice he (fun v l₁ n₁ ⟨h1, h2, h3⟩ => by
    cases h1; subst h2; subst h3
    exact ⟨c, as, rfl, rfl, hh, Led.le_refl _, hz, fun vs f => by rw [pick_last, List.map_drop, fits_lenV f]; exact fits_drop _ f⟩) (fun _ => PartS.some (EvS.neg EvS.int)) (fun _ => PartS.none) (fun _ => PartS.none) (by simp)

/-! list + list, list * int -/
theorem Ev.cat {T : Value → Loc → Led → Prop} (h1 : Ev X l n e T) (h2 : ∀ v l₁ n₁, T v l₁ n₁ → ∃ c, v = .ref c ∧ l₁ = l ∧ Ev X l n₁ e' (fun u l₂ n₂ => ∃ c', u = .ref c' ∧ l₂ = l ∧ Has X n₂ c as ∧ Has X n₂ c' bs ∧ n.le n₂))
    (hz : as.length + bs.length ≤ 2 ^ 24) : EvN X l n (.BinOp e .Add e' pos) (LS (as ++ bs)) := .mk fun r s R E G q => by
  refine wpAny_BinOp (h1.run r s _ E G ?_)
  intro v l₁ n₁ g₁ tk₁ hv G₁
  obtain ⟨c, rfl, rfl, h2⟩ := h2 v l₁ n₁ hv
  refine h2.run r _ _ E G₁ ?_
  rintro u l₂ n₂ g₂ tk₂ ⟨c', rfl, rfl, ha, hb, hle⟩ G₂
  refine (WP.cat ha hb hz).run r _ _ E G₂ ?_
  rintro _ _ _ g₃ tk₃ ⟨a, rfl, rfl, rfl⟩ G₃
  exact q _ _ _ g₃ tk₃ ⟨a, rfl, rfl, rfl⟩ (G₃.le (Led.le_append (Led.le_cons _ hle) r))
theorem EvN.catNN (h1 : EvN X l n e (LS as)) (h2 : ∀ c, EvN X l ((c, LS as) :: n) e' (LS bs)) (hz : as.length + bs.length ≤ 2 ^ 24) : EvN X l n (.BinOp e .Add e' pos) (LS (as ++ bs)) :=
  Ev.cat h1 (fun v l₁ n₁ ⟨c, h3, h4, h5⟩ => ⟨c, h3, h4, by
    subst h5
    exact (h2 c).mono fun u l₂ n₂ ⟨c', h6, h7, h8⟩ => ⟨c', h6, h7, by rw [h8]; exact Has.mem (.tail _ (.head _)), by rw [h8]; exact Has.mem (.head _), by rw [h8]; exact Led.le_skip _ (Led.le_skip _ (Led.le_refl _))⟩⟩) hz
theorem EvN.catNS {c' : Addr} (h1 : EvN X l n e (LS as)) (h2 : ∀ c, EvS X l ((c, LS as) :: n) e' (.v (.ref c'))) (hh : Has X n c' bs) (hz : as.length + bs.length ≤ 2 ^ 24) : EvN X l n (.BinOp e .Add e' pos) (LS (as ++ bs)) :=
  Ev.cat h1 (fun v l₁ n₁ ⟨c, h3, h4, h5⟩ => ⟨c, h3, h4, by
    subst h5
    exact (h2 c).mono fun u l₂ n₂ ⟨h6, h7, h8⟩ => by
      cases h6; subst h7; subst h8
      exact ⟨c', rfl, rfl, Has.mem (.head _), hh.skip _, Led.le_skip _ (Led.le_refl _)⟩⟩) hz
theorem fits_rep : ∀ (k : Nat) {a : SV} {v : Option Value}, a.is v → fits (List.replicate k a) (List.replicate k v)
  | 0, _, _, _ => trivial
  | k + 1, _, _, h => ⟨h, fits_rep k h⟩
/-- [a] * k -/
theorem EvN.rep1 {k : Int} (h1 : EvN X l n e (LS [a])) (h2 : ∀ c, EvS X l ((c, LS [a]) :: n) e' (.i k)) (hz : k ≤ 2 ^ 24) (hlo : -(2 ^ 62) ≤ k) : EvN X l n (.BinOp e .Mult e' pos) (LS (List.replicate k.toNat a)) := .mk fun r s R E G q => by
  refine wpAny_BinOp (h1.run r s _ E G ?_)
  rintro _ _ _ g₁ tk₁ ⟨c, rfl, rfl, rfl⟩ G₁
  refine (h2 c).run r _ _ E G₁ ?_
  rintro _ _ _ g₂ tk₂ ⟨⟨t, hu⟩, rfl, rfl⟩ G₂
  cases hu
  obtain ⟨o, ho, vs, j, rfl, f⟩ := G₂.get (.head _)
  obtain ⟨v, rfl, hv1_⟩ := fits1 f
  obtain ⟨m, os, F, N, _, kk⟩ := G₂.news
  refine mul_list (items := #[v]) F N ho (by (first | decide | lia | omega)) (by (first | decide | lia | omega)) (by show 1 * k.toNat ≤ _; (first | decide | lia | omega)) fun h' F' N' => ?_
  refine q _ _ _ h' tk₂ ⟨_, rfl, rfl, rfl⟩ (Good.le (kk h' _ _ (LS (List.replicate k.toNat a)) F' N' (Nat.le_refl _) ⟨List.replicate k.toNat v, 0, ?_, ?_⟩) (Led.le_append (Led.le_cons _ (Led.le_skip _ (Led.le_refl _))) r))
  · show Obj.mk _ _ (Data.seq _ _) _ = _
    congr 2
    have : (if (#[v] : Array Value).isEmpty = true then 0 else k.toNat) = k.toNat := rfl
    rw [this]
    generalize k.toNat = j
    have key : ∀ (j : Nat) (acc : Array Value), List.foldl (fun x1 x2 => x1 ++ x2) acc (List.replicate j #[v]) = acc ++ (List.replicate j v).toArray := by
      intro j
      induction j with
      | zero => intro acc; simp
      | succ j ih => intro acc; rw [List.replicate_succ, List.foldl_cons, ih, Array.append_assoc]; apply Array.toList_inj.mp; simp [List.replicate_succ]
    rw [key]; simp
  · rw [List.map_replicate]; exact fits_rep _ hv1_

/-! comparisons of lists -/
theorem EvT.cmpG {op : CmpOp} {bl : Bool} {T : Value → Loc → Led → Prop} (h1 : Ev X l n e T)
    (h2 : ∀ v l₁ n₁, T v l₁ n₁ → ∃ T', Ev X l₁ n₁ e' T' ∧ ∀ u l₂ n₂, T' u l₂ n₂ → WP X (compareOp op v u) l₂ n₂ (fun w l₃ n₃ => w = .bool bl ∧ l₃ = l ∧ n.le n₃))
    (hm : behindInMarks op e' = false := by with_unfolding_all rfl) : EvT X l n (.Compare e [op] [e'] pos) bl := .mk fun r s R E G q => by
  refine wpAny_isTrue_Compare1 (h1.run r s _ E G ?_) hm
  intro v l₁ n₁ g₁ tk₁ hv G₁
  obtain ⟨T', h3, h4⟩ := h2 v l₁ n₁ hv
  refine h3.run r _ _ E G₁ ?_
  intro u l₂ n₂ g₂ tk₂ hu G₂
  refine (h4 u l₂ n₂ hu).run r _ _ E G₂ ?_
  rintro w l₃ n₃ g₃ tk₃ ⟨rfl, rfl, hle⟩ G₃
  exact wpAny_truthy_bool (q _ _ _ g₃ tk₃ ⟨rfl, rfl, rfl⟩ (G₃.le (Led.le_append hle r)))
theorem WP.neL {c c' : Addr} {js ks : List Int} (hX : Ok Γ X d sc ns cl) (h1 : Has X n c (js.map SV.i)) (h2 : Has X n c' (ks.map SV.i)) : WP X (compareOp .NotEq (.ref c) (.ref c')) l n (fun w l' n' => w = .bool (!decide (js = ks)) ∧ l' = l ∧ n' = n) := .mk fun r s R E G q => by
  obtain ⟨vs, hL, f⟩ := h1 l r _ G
  obtain ⟨us, hL', f'⟩ := h2 l r _ G
  exact ke_ne_ints hL hL' (ints_of_fits f) (ints_of_fits f') (by have := hX.units; (first | decide | lia | omega)) (by have := q _ l n s.heap s.toks ⟨rfl, rfl, rfl⟩ G; exact this)
end
end Mine
namespace Mine
open PySem PySem.W PyProof.Rows PySem.Calls PySem.Spec
set_option linter.unusedVariables false

/-! ### Cells -/
inductive Upd (c : Addr) (P P' : Obj → Prop) : Led → Led → Prop
  | here {n} : Upd c P P' ((c, P) :: n) ((c, P') :: n)
  | there {q n n'} : Upd c P P' n n' → Upd c P P' (q :: n) (q :: n')
theorem Upd.perm {c : Addr} {P P' : Obj → Prop} {n n' : Led} (U : Upd c P P' n n') : ∃ m : Led, List.Perm n ((c, P) :: m) ∧ List.Perm n' ((c, P') :: m) := by
  induction U with
  | here => exact ⟨_, .refl _, .refl _⟩
  | there _ ih =>
    obtain ⟨m, h1, h2⟩ := ih
    exact ⟨_ :: m, (List.Perm.cons _ h1).trans (List.Perm.swap _ _ _), (List.Perm.cons _ h2).trans (List.Perm.swap _ _ _)⟩

/-- where the assignment of 'a' to the name leads -/
inductive Sto (ns : List Str) (sc : Scope) (cl : List (Str × Addr)) (x : Str) (a : SV) : Loc → Led → Loc → Led → Prop
  | loc {l : Loc} {n : Led} {g : SV → Loc} : Put ns l x g → Sto ns sc cl x a l n (g a) n
  | cell {l : Loc} {n n' : Led} {c : Addr} {P : Obj → Prop} : sc.names.lookup x = some .cell → cl.lookup x = some c → (∀ o, P o → CellAny o) → Upd c P (CellIs a) n n' → Sto ns sc cl x a l n l n'

section
variable {Γ : Gd} {X : Cx} {d : Nat} {sc : Scope} {ns : List Str} {cl : List (Str × Addr)} {l l' : Loc} {n m n' r : Led} {x y : Str} {pos p₁ p₂ tpos : Pos} {a b : SV} {as : Loc} {e e' : Expr} {es : List Expr} {c : Addr} {P P' : Obj → Prop} {h h' : Heap} {o' oc : Obj} {rest : List Stmt} {Q : Flow → Loc → Led → Prop}

theorem Good.updAt (G : Good X l (n ++ r) h) (U : Upd c P P' n n') (k : ∀ b o, b ≠ c → h.get? b = some o → h'.get? b = some o) (ho : h'.get? c = some o') (hP : P' o') : Good X l (n' ++ r) h' := by
  obtain ⟨m, h1, h2⟩ := U.perm
  exact (Good.upd (n := m ++ r) (G.le (Led.le_append (Led.le_of_perm h1.symm) r)) k ho hP).le (Led.le_append (Led.le_of_perm h2) r)


theorem WP.sto {v : Value} (hX : Ok Γ X d sc ns cl) (S : Sto ns sc cl x a l n l' n') (hv : a.is (some v)) : WP X (storeName X.env x v) l n (fun _ l₁ n₁ => l₁ = l' ∧ n₁ = n') := by
  cases S with
  | loc P => exact WP.store hX P hv
  | cell hk hc hP U =>
    refine .mk fun r s R E G q => ?_
    obtain ⟨m, h1, h2⟩ := U.perm
    obtain ⟨o, ho, hp⟩ := (G.le (Led.le_append (Led.le_of_perm h1.symm) r)).get (.head _)
    obtain ⟨v₀, hd⟩ := hP o hp
    refine wpAny_storeName_cell (by rw [hX.hs]; exact hX.kd) (by unfold Env.kindOf; rw [hX.hs]; exact hk) (by rw [hX.hc]; exact hc) ⟨o, ho, hd⟩ fun h' hv' hs => ?_
    obtain ⟨o', ho', hd'⟩ := hv'
    exact q () _ _ h' s.toks ⟨rfl, rfl⟩ (Good.updAt G U (fun b o hb e => (hs.2 b hb).trans e) ho' ⟨v, hd', hv⟩)

theorem St.assignX {T : Value → Loc → Led → Prop} (hX : Ok Γ X d sc ns cl) (he : Ev X l n e T)
    (k : ∀ v l₁ n₁, T v l₁ n₁ → ∃ a l₂ n₂, a.is (some v) ∧ Sto ns sc cl x a l₁ n₁ l₂ n₂ ∧ St X l₂ n₂ rest Q)
    (hs : swapsWith e (some (.Name x p₁)) pos.line X.env = pure false := by rfl) : St X l n (.Assign [.Name x p₁] e pos :: rest) Q := by
  refine St.cons (.mk fun r s R E G q => wpAny_Assign_Name (he.run r s _ E G ?_) hs)
  intro v l₁ n₁ h₁ tk₁ hv G₁
  obtain ⟨a, l₂, n₂, ha, P, hr⟩ := k v l₁ n₁ hv
  refine (WP.sto hX P ha).run r _ _ E G₁ ?_
  rintro _ _ _ h₂ tk₂ ⟨rfl, rfl⟩ G₂
  exact q _ _ _ h₂ tk₂ hr G₂

/-! ### A def in a def -/
def Tab0 (o : Obj) : Prop := o = tabObj #[]
def TabC (pos : Pos) (c' : Addr) (o : Obj) : Prop := o = tabObj #[rawInt pos.line, rawInt pos.col, .ref c']
def CodeO (qual : Str) (o : Obj) : Prop := ∃ vs t, o.data = .fields vs ∧ vs[1]? = some (.str qual t)
def FnO (name qual : Str) (params : Arguments) (body : List Stmt) (scope : Scope) (clos : List (Str × Addr)) (c' : Addr) (o : Obj) : Prop := ∃ doc pm ctv, o = fnMade name qual params body scope clos doc pm c' ctv
/-- the table of the def's code -/
def TabIs (pos : Pos) (qual : Str) (P : Addr) (n : Led) : Prop := n = [(P, Tab0)] ∨ ∃ c', n = [(P, TabC pos c'), (c', CodeO qual)]

theorem Good.updAdd {P₀ C : Obj → Prop} {P : Addr} (G : Good X l ((P, P₀) :: n) h) (k : ∀ b o, b ≠ P → h.get? b = some o → h'.get? b = some o) (ho : h'.get? P = some o') (hP : P' o') (hn : h.get? c = none) (hc : h'.get? c = some oc) (hC : C oc) : Good X l ((P, P') :: (c, C) :: n) h' := by
  obtain ⟨h1, h2, h3⟩ := G.fresh hn
  have G' := G.upd k ho hP
  refine Good.le (m := (c, C) :: (P, P') :: n) ⟨G'.fr, fun p hp => ?_, List.nodup_cons.mpr ⟨h3, G'.nd⟩⟩ (Led.le_of_perm (List.Perm.swap _ _ _))
  rcases List.mem_cons.mp hp with rfl | hp
  · exact ⟨⟨oc, hc, hC⟩, h1, h2⟩
  · exact G'.nw p hp

theorem makeFnW {name qual : Str} {params : Arguments} {body : List Stmt} {scope : Scope} {P : Addr} {clos : List (Str × Addr)} {n₀ : Led} {fl : Nat} (hX : Ok Γ X d sc ns cl) (hcode : X.env.code = .ref c) (C : codeHdIn Γ.K c P = true)
    (hcl : closureFor scope X.env = pure clos) (T : TabIs pos qual P n₀) :
    WP X (makeFunction name qual params (.stmts body) scope X.env [] [] [] pos fl) l (n₀ ++ m) (fun v l' n' => ∃ f c', v = .ref f ∧ l' = l ∧ n' = (f, FnO name qual params body scope clos c') :: (P, TabC pos c') :: (c', CodeO qual) :: m) := .mk fun r s R E G q => by
  obtain ⟨p, loose, mean, mg, mb, Tp⟩ := hX.top
  obtain ⟨⟨us, fu, F⟩, N, D⟩ := id G
  have hgs := Tp.g.keeps F.keep
  have Ck : CodeHd s.heap c P := (codeHd_of_K hX.kin C).keeps F.keep
  obtain ⟨bm, ob, b1, b2, b3, b4, b5, b6⟩ := Tp.bmain
  have hbG : bm ≠ mainGlobals := fun q => by
    obtain ⟨o, es, ep, e, hd, _⟩ := Tp.g
    rw [q, e] at b3; cases b3; rw [hd] at b6; cases b6
  rcases T with rfl | ⟨c', rfl⟩
  · obtain ⟨⟨o, ho, hp⟩, _, hP0⟩ := N (P, Tab0) (.head _)
    cases hp
    have hgP : mainGlobals ≠ P := fun q => by
      obtain ⟨o, es, ep, e, hd, _⟩ := hgs
      have ho' : s.heap.get? P = _ := ho
      rw [q, ho'] at e; cases e; cases hd
    have hbP : bm ≠ P := fun q => by
      have e := F.keep _ _ b3
      have ho' : s.heap.get? P = _ := ho
      rw [q, ho'] at e; cases e; cases b4
    refine makeFunction_K (mg := mg) (ps := #[]) hcl hX.gl hgs hcode Ck ho trivial rfl hgP ⟨bm, ob, b1, b2, hbG, hbP, F.keep _ _ b3, b4, b5, b6⟩ fun c' ctv doc h' tk hx hge hlt hrec htb => ?_
    obtain ⟨c₂, oc, vs, t, e2, hoc, hd, hv⟩ := hrec
    cases e2
    have G₁ : Good X l ((P, TabC pos c') :: (c', CodeO qual) :: (m ++ r)) h' := Good.updAdd (P₀ := Tab0) (n := m ++ r) G hx htb (by simp [TabC]) (Heap.get?_none_of_le hge) hoc ⟨vs, t, hd, hv⟩
    exact q _ l _ _ tk ⟨_, c', rfl, rfl, rfl⟩ (Good.push G₁ rfl ⟨_, _, _, rfl⟩)
  · obtain ⟨⟨o, ho, hp⟩, _, hP0⟩ := N (P, TabC pos c') (.head _)
    cases hp
    have hbP : bm ≠ P := fun q => by
      have e := F.keep _ _ b3
      have ho' : s.heap.get? P = _ := ho
      rw [q, ho'] at e; cases e; cases b4
    refine makeFunction_hit (mg := mg) hcl hX.gl hgs hcode Ck ho (by simp [TriplesOk, rawInt]) (cv := .ref c') (by simp [codeAmong, rawInt]) ⟨bm, ob, b1, b2, hbG, hbP, F.keep _ _ b3, b4, b5, b6⟩ fun ctv doc h' tk hk hsz => ?_
    exact q _ l _ _ tk ⟨_, c', rfl, rfl, rfl⟩ (Good.push (G.keeps hk) rfl ⟨_, _, _, rfl⟩)

theorem St.def_ {name qual : Str} {params : Arguments} {body : List Stmt} {scope : Scope} {P : Addr} {clos : List (Str × Addr)} {n₀ : Led} (hX : Ok Γ X d sc ns cl) (hd0 : params.defaults = []) (hk0 : params.kw_defaults = []) (ha : annTrees params none X.env = [])
    (hq : qualnameIn X.env name name = qual) (hcode : X.env.code = .ref c) (C : codeHdIn Γ.K c P = true) (hcl : closureFor scope X.env = pure clos) (T : TabIs pos qual P n₀) (hn : List.Perm (n₀ ++ m) n)
    (k : ∀ f c' PF, PF = FnO name qual params body scope clos c' → ∃ l₂ n₂, Sto ns sc cl name (.v (.ref f)) l ((f, PF) :: (P, TabC pos c') :: (c', CodeO qual) :: m) l₂ n₂ ∧ St X l₂ n₂ rest Q) :
    St X l n (.FunctionDef name params body [] none [] scope none name pos :: rest) Q := by
  refine St.cons (.mk fun r s R E G q => nestDef_K hd0 hk0 ha ?_)
  rw [hq]
  refine ((makeFnW hX hcode C hcl T).pre (Led.le_of_perm hn)).run r s _ E G ?_
  rintro _ _ _ h₁ tk₁ ⟨f, c', rfl, rfl, rfl⟩ G₁
  obtain ⟨l₂, n₂, S, hr⟩ := k f c' _ rfl
  refine (WP.sto hX S rfl).run r _ _ E G₁ ?_
  rintro _ _ _ h₂ tk₂ ⟨rfl, rfl⟩ G₂
  exact q _ _ _ h₂ tk₂ hr G₂

/-- a call of a def of the ledger -/
theorem Ev.callF {f : Addr} {PF : Obj → Prop} {Q : Value → Loc → Led → Prop} (hPF : ∀ o, PF o → ∃ fd, o.data = .func fd) (hf : EvS X l n (.Name x p₁) (.v (.ref f))) (hm : (f, PF) ∈ n) (ha : EvA X l n (e :: es) as)
    (hc : ∀ vs, fits as (vs.map some) → WP X (call (.ref f) vs) l n Q) (he : starEach (e :: es) X.env = (false, eval e X.env) :: starEach es X.env := by rfl) (hpl : (starEach es X.env).any (·.1) = false := by rfl) : Ev X l n (.Call (.Name x p₁) (e :: es) [] pos) Q := .mk fun r s R E G q => by
  refine Call_Name rfl (hf.run r s _ E G ?_)
  rintro v l₁ n₁ h₁ tk₁ ⟨hv, rfl, rfl⟩ G₁
  cases hv
  have at_ : ∀ h, Good X l₁ (n₁ ++ r) h → FnAt f h := fun h G => by
    obtain ⟨⟨oc, od, dt, sl⟩, ho, hp⟩ := G.get (List.mem_append_left _ hm)
    obtain ⟨fd, e⟩ := hPF _ hp
    cases e
    exact ⟨_, _, _, _, ho⟩
  refine callWith_F (at_ _ G₁) ?_ he (plain_args hpl)
  refine (ha pos).run r _ _ E G₁ ?_
  rintro vs l₂ n₂ h₂ tk₂ ⟨hvs, rfl, rfl⟩ G₂
  exact ⟨at_ _ G₂, (hc vs hvs).run r _ _ E G₂ fun a l' n' h' tk' x G' => q a l' n' h' tk' x G'⟩
theorem Ev.fnF {f : Addr} {d' : Nat} {PF : Obj → Prop} {Q : Value → Led → Prop} (hPF : ∀ o, PF o → ∃ fd, o.data = .func fd) (hX : Ok Γ X d sc ns cl) (hf : EvS X l n (.Name x p₁) (.v (.ref f))) (hm : (f, PF) ∈ n) (ha : EvA X l n (e :: es) as)
    (hd : d' ≤ d) (hF : Fn Γ d' (.ref f) as n' Q) (hp : List.Perm (n' ++ m) n) (he : starEach (e :: es) X.env = (false, eval e X.env) :: starEach es X.env := by rfl) (hpl : (starEach es X.env).any (·.1) = false := by rfl) :
    Ev X l n (.Call (.Name x p₁) (e :: es) [] pos) (fun v l' n₂ => l' = l ∧ ∃ n₁, n₂ = n₁ ++ m ∧ Q v n₁) :=
  Ev.callF hPF hf hm ha (fun vs hvs => ((((hF X sc ns cl l vs (hX.mono hd) hvs).frame m).pre (Led.le_of_perm hp)).mono fun v l₁ n₁ ⟨n₂, h1, h2, h3⟩ => ⟨h2, n₂, h1, h3⟩)) he hpl
end

/-! frames -/
theorem Fn.closure {Γ : Gd} {d : Nat} {f c' : Addr} {as : Loc} {n : Led} {Q : Value → Led → Prop} {name qual : Str} {params : Arguments} {body : List Stmt} {scope : Scope} {cl : List (Str × Addr)}
    (ps qs names : List Str) (hnm : ps ++ qs = names) (l0 : Loc) (hl0 : as ++ List.replicate qs.length .any = l0)
    (ho : (f, FnO name qual params body scope cl c') ∈ n) (hcd : (c', CodeO qual) ∈ n)
    (hlen : ps.length = as.length)
    (hbind : ∀ doc pm ctv (vs : List Value), vs.length = as.length → bindArgs (fnX name qual params body scope cl .none .none doc pm none (.ref c') ctv) ⟨vs, []⟩ = pure (ps.zip vs))
    (nod : names.Nodup) (loc : ((ps ++ qs).all fun x => scope.names.lookup x == some .local && !(x == ("__debug__" : Str))) = true)
    (hcell : (scope.names.all fun x => !(x.2 == .cell)) = true) (hco : scope.isCoroutine = false) (hgen : scope.isGenerator = false) (hk : scope.kind = .function)
    (hb : ∀ X : Cx, Ok Γ X d scope names cl → St X l0 n body (fun fl _ n' => Q (retv fl) n')) : Fn Γ (d + 1) (.ref f) as n Q := by
  subst hnm
  subst hl0
  have dbg : ∀ x ∈ ps ++ qs, (x == ("__debug__" : Str)) = false := fun x hx => by
    have := List.all_eq_true.mp loc x hx
    rw [Bool.and_eq_true] at this
    simpa using this.2
  replace loc : ∀ x ∈ ps ++ qs, scope.names.lookup x = some .local := fun x hx => by
    have := List.all_eq_true.mp loc x hx
    rw [Bool.and_eq_true] at this
    exact beq_iff_eq.mp this.1
  intro X sc ns cl' l vs hX hfit
  refine .mk fun r s R E G q => wpAny_call ?_
  replace hcell : ∀ x ∈ scope.names, x.2 ≠ .cell := fun x hx e => by
    have := List.all_eq_true.mp hcell x hx
    rw [e] at this; cases this
  have hvl : vs.length = as.length := by rw [fits_len hfit, List.length_map]
  obtain ⟨p, loose, mean, mg, mb, T⟩ := hX.top
  obtain ⟨⟨us, fu, F⟩, N, D⟩ := id G
  obtain ⟨fo, hfo, doc, pm, ctv, rfl⟩ := G.get (List.mem_append_left r ho)
  obtain ⟨oc, hoc, vc, tq, hc1, hc2⟩ := G.get (List.mem_append_left r hcd)
  refine codeAny_call_def (fd := fnX name qual params body scope cl .none .none doc pm none (.ref c') ctv) (body := body) (binds := ps.zip vs) (by have := hX.room; (first | decide | lia | omega)) hfo rfl (T.nolimit.keeps F.keep) ⟨c', oc, vc, tq, rfl, hoc, hc1, hc2⟩ rfl (.of_eq (hbind _ _ _ vs hvl)) hcell
    (fun x hx => loc _ (List.mem_append_left _ (zip_fst_sub ps vs x.1 (List.mem_map_of_mem (f := (·.1)) hx)))) (fun h₁ hns hk₁ => ?_) hco hgen hk
  have okX := hX.enter (names := ps ++ qs) (cl' := cl) (L := s.heap.objs.size) (env := envX qual scope s.heap.objs.size f (.ref c') cl) G rfl rfl hk rfl rfl rfl nod loc dbg
  have G' : Good ⟨X.prog, X.w, X.A.deeper (envX qual scope s.heap.objs.size f (.ref c') cl), hideAll s.heap (Led.at (n ++ r)), s.heap.objs.size, envX qual scope s.heap.objs.size f (.ref c') cl, ps ++ qs⟩ (as ++ List.replicate qs.length .any) (n ++ r) h₁ := by
    refine ⟨⟨vs.map some ++ List.replicate qs.length none, fits_append hfit (fits_any _), ⟨?_, fun b o e => hk₁ b o (of_hideAll _ e), Nat.le_of_eq (hideAll_size _ _)⟩⟩, fun p hp => ?_, D⟩
    · have e := funext (mp_start ps vs qs nod (by rw [hlen, hvl]))
      show h₁.Ns _ (mp (ps ++ qs) _)
      rw [← e]; exact hns
    · obtain ⟨⟨o, h1, h2⟩, h3, h4⟩ := N p hp
      exact ⟨⟨o, hk₁ _ _ h1, h2⟩, Nat.ne_of_lt (Heap.lt_size h1), G.hidden hp⟩
  refine (hb _ okX).run r _ _ _ G' ?_
  intro fl l' n' h' tk' hq G₂
  have back : Good X l (n' ++ r) h' := by
    obtain ⟨⟨us', _, F'⟩, N', D'⟩ := G₂
    exact G.back F'.keep (fun p hp => ⟨(N' p hp).1, (N' p hp).2.2⟩) D'
  have := q (retv fl) l n' h' tk' ⟨rfl, hq⟩ back
  cases fl <;> exact this

theorem Fn.cells {Γ : Gd} {d : Nat} {f : Addr} {as : Loc} {n : Led} {Q : Value → Led → Prop} {fo : Obj} {name qual : Str} {params : Arguments} {body : List Stmt} {scope : Scope} {dV kV doc pm cdv ct : Value} {an : Option Addr}
    (ps names : List Str) (l0 : Loc) (c0 : Addr → Led)
    (ho : ∀ h, Γ.K.In h → h.get? f = some fo) (hd : fo.data = .func (fnX name qual params body scope [] dV kV doc pm an cdv ct)) (hcd : codeIn Γ.K cdv qual = true)
    (hlen : ps.length = as.length)
    (hbind : ∀ vs : List Value, vs.length = as.length → bindArgs (fnX name qual params body scope [] dV kV doc pm an cdv ct) ⟨vs, []⟩ = pure (ps.zip vs))
    (hkind : ∀ L, ∀ x ∈ ps, scope.names.lookup x = some .local ∨ (scope.names.lookup x = some .cell ∧ ((cellsFrom L scope.names []).lookup x).isSome = true))
    (hmap : ∀ vs : List Value, fits as (vs.map some) → ∃ us, fits l0 us ∧ bindL (fun x => scope.names.lookup x) (ps.zip vs) (fun _ => none) = mp names us)
    (hcm : ∀ L (vs : List Value), fits as (vs.map some) → ∀ h : Heap, (∀ x c, (cellsFrom (L + 1) scope.names []).lookup x = some c → h.IsCell c (bindC (fun x => scope.names.lookup x) (ps.zip vs) (fun _ => none) x)) → ∀ p ∈ c0 L, (∃ o, h.get? p.1 = some o ∧ p.2 o) ∧ L < p.1)
    (hc0 : ∀ L, (c0 L).at.Nodup)
    (nod : names.Nodup) (loc : (names.all fun x => scope.names.lookup x == some .local && !(x == ("__debug__" : Str))) = true)
    (hco : scope.isCoroutine = false) (hgen : scope.isGenerator = false) (hk : scope.kind = .function)
    (hb : ∀ X : Cx, Ok Γ X d scope names (cellsFrom (X.L + 1) scope.names []) → X.env = envX qual scope X.L f cdv (cellsFrom (X.L + 1) scope.names []) → St X l0 (c0 X.L ++ n) body (fun fl _ n' => Q (retv fl) n')) : Fn Γ (d + 1) (.ref f) as n Q := by
  have dbg : ∀ x ∈ names, (x == ("__debug__" : Str)) = false := fun x hx => by
    have := List.all_eq_true.mp loc x hx
    rw [Bool.and_eq_true] at this
    simpa using this.2
  replace loc : ∀ x ∈ names, scope.names.lookup x = some .local := fun x hx => by
    have := List.all_eq_true.mp loc x hx
    rw [Bool.and_eq_true] at this
    exact beq_iff_eq.mp this.1
  intro X sc ns cl' l vs hX hfit
  refine .mk fun r s R E G q => wpAny_call ?_
  have hvl : vs.length = as.length := by rw [fits_len hfit, List.length_map]
  obtain ⟨p, loose, mean, mg, mb, T⟩ := hX.top
  obtain ⟨⟨us, fu, F⟩, N, D⟩ := id G
  have hkin : Γ.K.In s.heap := fun a o e => F.keep a o (hX.kin a o e)
  refine codeAny_call_cells (fd := fnX name qual params body scope [] dV kV doc pm an cdv ct) (body := body) (binds := ps.zip vs) (by have := hX.room; (first | decide | lia | omega)) (ho _ hkin) hd (T.nolimit.keeps F.keep) (codeRec_of hkin hcd) rfl (hbind vs hvl) rfl
    (fun x hx => hkind _ _ (zip_fst_sub ps vs x.1 (List.mem_map_of_mem (f := (·.1)) hx))) (fun s₁ I => ?_) hco hgen hk
  obtain ⟨⟨⟨h₁, tk₁, rfl⟩, hns, hk₁, _⟩, hcell, _, _⟩ := I
  have okX := hX.enter (names := names) (cl' := cellsFrom (s.heap.objs.size + 1) scope.names []) (L := s.heap.objs.size) (env := envX qual scope s.heap.objs.size f cdv (cellsFrom (s.heap.objs.size + 1) scope.names [])) G rfl rfl hk rfl rfl rfl nod loc dbg
  obtain ⟨ws, fw, ew⟩ := hmap vs hfit
  have hC := hcm s.heap.objs.size vs hfit h₁ hcell
  have G' : Good ⟨X.prog, X.w, X.A.deeper (envX qual scope s.heap.objs.size f cdv (cellsFrom (s.heap.objs.size + 1) scope.names [])), hideAll s.heap (Led.at (n ++ r)), s.heap.objs.size, envX qual scope s.heap.objs.size f cdv (cellsFrom (s.heap.objs.size + 1) scope.names []), names⟩ l0 ((c0 s.heap.objs.size ++ n) ++ r) h₁ := by
    rw [List.append_assoc]
    refine ⟨⟨ws, fw, ⟨?_, fun b o e => hk₁ b o (of_hideAll _ e), Nat.le_of_eq (hideAll_size _ _)⟩⟩, fun p hp => ?_, ?_⟩
    · show h₁.Ns _ (mp names ws)
      rw [← ew]; exact hns
    · rcases List.mem_append.mp hp with hp | hp
      · obtain ⟨h1, h2⟩ := hC p hp
        exact ⟨h1, Nat.ne_of_gt h2, Heap.get?_none_of_le (Nat.le_trans (Nat.le_of_eq (hideAll_size _ _)) (Nat.le_of_lt h2))⟩
      · obtain ⟨⟨o, h1, h2⟩, h3, h4⟩ := N p hp
        exact ⟨⟨o, hk₁ _ _ h1, h2⟩, Nat.ne_of_lt (Heap.lt_size h1), G.hidden hp⟩
    · unfold Led.at
      rw [List.map_append]
      refine List.nodup_append.mpr ⟨hc0 _, D, fun b hb b' hb' e => ?_⟩
      obtain ⟨p, hp, rfl⟩ := List.mem_map.mp hb
      obtain ⟨p', hp', rfl⟩ := List.mem_map.mp hb'
      have h1 := (hC p hp).2
      obtain ⟨⟨o, h2, _⟩, _⟩ := N p' hp'
      have h3 := Heap.lt_size h2
      rw [← e] at h3
      exact Nat.lt_irrefl _ (Nat.lt_trans h1 h3)
  refine (hb _ okX rfl).run r _ _ _ G' ?_
  intro fl l' n' h' tk' hq G₂
  have back : Good X l (n' ++ r) h' := by
    obtain ⟨⟨us', _, F'⟩, N', D'⟩ := G₂
    exact G.back F'.keep (fun p hp => ⟨(N' p hp).1, (N' p hp).2.2⟩) D'
  have := q (retv fl) l n' h' tk' ⟨rfl, hq⟩ back
  cases fl <;> exact this
end Mine
namespace Mine
open PySem PySem.W PyProof.Rows PySem.Calls PySem.Spec
set_option linter.unusedVariables false
set_option maxRecDepth 100000

section
variable {Γ : Gd} {X : Cx} {d d' : Nat} {sc : Scope} {ns : List Str} {cl : List (Str × Addr)} {l l' : Loc} {n m n' : Led} {x y : Str} {pos p₁ p₂ tpos apos : Pos} {a b : SV} {as bs : Loc} {e e' o i e₁ e₂ : Expr} {es : List Expr} {c : Addr} {rest : List Stmt} {Q : Flow → Loc → Led → Prop} {j k : Int}

/-! built-ins of one int -/
theorem EvS.abs (hf : EvS X l n (.Name x p₁) (.v (.builtin "abs"))) (h1 : EvS X l n e (.i j)) (he : starEach [e] X.env = [(false, eval e X.env)] := by rfl) :
    EvS X l n (.Call (.Name x p₁) [e] [] pos) (.i (if j < 0 then -j else j)) :=
  Ev.blt hf (EvA.cons h1 EvA.nil he) (fun vs hvs => by
    obtain ⟨v, rfl, hv1_⟩ := fits1 hvs
    obtain ⟨t, e1⟩ := hv1_
    cases e1
    exact .mk fun r s R E G q => call_abs_int fun u tk => q _ l n s.heap tk ⟨⟨_, rfl⟩, rfl, rfl⟩ G) he rfl
theorem EvS.intc (hf : EvS X l n (.Name x p₁) (.v (.type "int"))) (h1 : EvS X l n e (.i j)) (he : starEach [e] X.env = [(false, eval e X.env)] := by rfl) :
    EvS X l n (.Call (.Name x p₁) [e] [] pos) (.i j) :=
  Ev.typ hf (EvA.cons h1 EvA.nil he) (fun vs hvs => by
    obtain ⟨v, rfl, hv1_⟩ := fits1 hvs
    obtain ⟨t, e1⟩ := hv1_
    cases e1
    exact .mk fun r s R E G q => call_int_int (by have := q (.int j t) l n s.heap s.toks ⟨⟨t, rfl⟩, rfl, rfl⟩ G; exact this)) he rfl
theorem EvS.bits {pl : Sem Bool} (h1 : EvS X l n o (.i j)) (hev : eval (.Call (.Attribute o "bit_length" apos) [] [] pos) X.env = (do
      let ov ← eval o X.env
      standAt apos.atName
      let (f, first) ← holding [ov] (getMethod ov "bit_length" pl)
      callWith pos f first (backTo pos (starEach [] X.env)) (backToKw pos (keywordEach [] X.env))) := by rfl) :
    EvS X l n (.Call (.Attribute o "bit_length" apos) [] [] pos) (.i (Builtin.Int.intBits j)) :=
  Ev.meth0 (id := "int.bit_length") (pl := pl) h1 (fun v hv r s Q E G h => by
    obtain ⟨t, e1⟩ := hv
    cases e1
    exact getMethod_int_bit_length h) (fun v hv => by
    obtain ⟨t, e1⟩ := hv
    cases e1
    exact .mk fun r s R E G q => call_int_bit_length (q _ l n s.heap _ ⟨⟨_, rfl⟩, rfl, rfl⟩ G)) hev

/-! bytes -/
theorem EvS.bytes {u : List UInt8} {k : Nat} : EvS X l n (.Constant (.bytes u) k pos) (.y u.toArray) := .mk fun r s R E G q =>
  Constant_bytes (q _ l n s.heap (s.toks + 1) ⟨⟨_, rfl⟩, rfl, rfl⟩ G)
theorem EvS.addY {u v : Array UInt8} (h1 : EvS X l n e (.y u)) (h2 : EvS X l n e' (.y v)) (hz : u.size + v.size ≤ 2 ^ 24) : EvS X l n (.BinOp e .Add e' pos) (.y (u ++ v)) := by
  refine EvS.bin h1 h2 ?_
  rintro v u ⟨t, e1⟩ ⟨t', e2⟩
  cases e1; cases e2
  exact .mk fun r s R E G q => KBy.add_bytes hz fun t' k => q _ l n s.heap k ⟨⟨_, rfl⟩, rfl, rfl⟩ G
theorem EvS.cutY {u : Array UInt8} {lo hi : Option Expr} {vlo vhi : Option Int} {sp : Pos} (he : EvS X l n e (.y u)) (h1 : PartS X l n lo vlo) (h2 : PartS X l n hi vhi) (hz : u.size ≤ 2 ^ 24)
    (hs : ∀ o i : Value, subscripted (.Slice lo hi none sp) false o i = operate [i, o] (PySem.getItem o i) := by intro _ _; rfl)
    (ht : ∀ t r, letTemporaryGo e (.bytes u t) r = pure () := by intro _ _; rfl) : EvS X l n (.Subscript e (.Slice lo hi none sp) pos) (.y (KBy.picked u vlo vhi)) := .mk fun r s R E G q => by
  refine Subscript_ (he.run r s _ E G ?_)
  rintro v l₁ n₁ g₁ tk₁ ⟨⟨t, hv⟩, rfl, rfl⟩ G₁
  cases hv
  refine wpAny_Slice (h1.run.run r _ _ E G₁ ?_)
  rintro u₁ l₂ n₂ g₂ tk₂ ⟨p₁, rfl, rfl⟩ G₂
  refine h2.run.run r _ _ E G₂ ?_
  rintro u₂ l₃ n₃ g₃ tk₃ ⟨p₂, rfl, rfl⟩ G₃
  refine (PartS.none (X := X) (l := l₃) (n := n₃)).run.run r _ _ E G₃ ?_
  rintro u₃ l₄ n₄ g₄ tk₄ ⟨p₃, rfl, rfl⟩ G₄
  cases p₃
  obtain ⟨m, os, F, N, kk, _⟩ := G₄.news
  exact KBc.slice_K (s := { s with heap := g₄, toks := tk₄ }) F N rfl p₁ p₂ (by rw [KBw.ints_length]; exact hz) (fun h' t' k F' N' _ => q _ l₄ n₄ h' k ⟨⟨_, rfl⟩, rfl, rfl⟩ (kk h' F' N')) (hs _ _) (ht _)

def ItY (u : Array UInt8) (k : Nat) (o : Obj) : Prop := o.cls = .type "bytes_iterator" ∧ ∃ t, o.data = .fields #[.bytes u t, .int k 0]
theorem Iter.bytes (u : Array UInt8) : Iter (fun _ _ => True) ((KBw.bInts u).map SV.i) (ItY u) where
  next := fun X i k l n x hh hc ha => .mk fun r s R E G q => by
    obtain ⟨o, ho, h1, t, h2⟩ := G.get (.head _)
    have hl : k < u.size := by
      have := (List.getElem?_eq_some_iff.mp ha).1
      simpa [KBw.bInts] using this
    have hx : u[k]? = some u[k] := Array.getElem?_eq_getElem hl
    have e : x = .i (u[k].toNat : Int) := by
      rw [List.getElem?_map, KBw.ints_get hx] at ha
      exact (Option.some.inj ha).symm
    subst e
    refine KBw.next_item ⟨o, ho, h1, h2⟩ hx fun h' hit hs => ?_
    obtain ⟨o', ho', h1', h2'⟩ := hit
    exact q _ l _ h' _ ⟨_, rfl, ⟨_, rfl⟩, rfl, rfl⟩ (Good.upd G (fun b o hb e => (hs.2 b hb).trans e) ho' ⟨h1', t, h2'⟩)
  done := fun X i l n hh hc => .mk fun r s R E G q => by
    obtain ⟨o, ho, h1, t, h2⟩ := G.get (.head _)
    refine KBw.next_end hh ⟨o, ho, h1, h2⟩ (Array.getElem?_eq_none (by rw [List.length_map, KBw.ints_length]; exact Nat.le_refl _)) fun h' hs => ?_
    exact q _ l n h' s.toks ⟨rfl, rfl, rfl⟩ (good_ext G hs)
  self := fun X i k l n => .mk fun r s R E G q => by
    obtain ⟨o, ho, h1, t, h2⟩ := G.get (.head _)
    exact KBw.pyIter_self ⟨o, ho, h1, h2⟩ (q _ l _ s.heap s.toks ⟨rfl, rfl, rfl⟩ G)
theorem WP.iterY {u : Array UInt8} {t : Tok} : WP X (pyIter (.bytes u t)) l n (fun v l' n' => ∃ i, v = .ref i ∧ l' = l ∧ n' = (i, ItY u 0) :: n) := .mk fun r s R E G q =>
  KBw.pyIter_bytes (q _ l _ _ s.toks ⟨_, rfl, rfl, rfl⟩ (Good.push G rfl ⟨rfl, _, rfl⟩))

/-! reversed -/
def ItV (c : Addr) (z : Nat) (k : Nat) (o : Obj) : Prop := o.cls = .type "list_reverseiterator" ∧ o.data = .fields #[.ref c, rawInt ((z : Int) - k - 1)]
theorem Iter.rev (c : Addr) (as : Loc) : Iter (fun X n => Has X n c as) as.reverse (ItV c as.length) where
  next := fun X i k l n x hh hc ha => .mk fun r s R E G q => by
    obtain ⟨o, ho, h1, h2⟩ := G.get (.head _)
    obtain ⟨vs, hL, f⟩ := hc l r _ G.drop
    have hlt : k < as.length := by simpa using (List.getElem?_eq_some_iff.mp ha).1
    rw [List.getElem?_reverse hlt] at ha
    obtain ⟨v, e1, e2⟩ := fits_getV f ha
    have ek : ((as.length : Int) - k - 1) = ((as.length - 1 - k : Nat) : Int) := by (first | decide | lia | omega)
    refine wpAny_pyNext_rev_item (i := as.length - 1 - k) ⟨o, ho, h1, by rw [h2, ek]⟩ hL (by rw [List.getElem?_toArray]; exact e1) fun h' hit hs => ?_
    obtain ⟨o', ho', h1', h2'⟩ := hit
    exact q _ l _ h' s.toks ⟨_, rfl, e2, rfl, rfl⟩ (Good.upd G (fun b o hb e => (hs.2 b hb).trans e) ho' ⟨h1', by rw [h2', show ((as.length - 1 - k : Nat) : Int) - 1 = (as.length : Int) - (k + 1 : Nat) - 1 by (first | decide | lia | omega)]⟩)
  done := fun X i l n hh hc => .mk fun r s R E G q => by
    obtain ⟨o, ho, h1, h2⟩ := G.get (.head _)
    refine wpAny_pyNext_rev_end hh ⟨o, ho, h1, by rw [h2, List.length_reverse, show ((as.length : Int) - as.length - 1) = -1 by (first | decide | lia | omega)]⟩ fun h' hs => ?_
    exact q _ l n h' s.toks ⟨rfl, rfl, rfl⟩ (good_ext G hs)
  self := fun X i k l n => .mk fun r s R E G q => by
    obtain ⟨o, ho, h1, h2⟩ := G.get (.head _)
    exact wpAny_pyIter_revIter ⟨o, ho, h1, h2⟩ (q _ l _ s.heap s.toks ⟨rfl, rfl, rfl⟩ G)
theorem EvN.reversed (hf : EvS X l n (.Name x p₁) (.v (.type "reversed"))) (h1 : EvS X l n e (.v (.ref c))) (hh : Has X n c as) (he : starEach [e] X.env = [(false, eval e X.env)] := by rfl) :
    EvN X l n (.Call (.Name x p₁) [e] [] pos) (ItV c as.length 0) :=
  Ev.typ hf (EvA.cons h1 EvA.nil he) (fun vs hvs => by
    obtain ⟨v, rfl, hv1_⟩ := fits1 hvs
    have e1 := hv1_
    cases e1
    refine .mk fun r s R E G q => ?_
    obtain ⟨us, hL, f⟩ := hh l r _ G
    refine call_reversed_list hL ?_
    exact q _ l _ _ s.toks ⟨_, rfl, rfl, rfl⟩ (Good.push G rfl ⟨rfl, by show Data.fields _ = _; rw [fits_size f]; simp⟩)) he rfl

/-! lists -/
theorem St.reverse {pl : Sem Bool} {spos : Pos} (ho : EvS X l ((c, LS as) :: n) o (.v (.ref c))) (hz : as.length ≤ 2 ^ 24) (k : St X l ((c, LS as.reverse) :: n) rest Q)
    (hi : interactive X.env = false)
    (hev : eval (.Call (.Attribute o "reverse" apos) [] [] pos) X.env = (do
      let ov ← eval o X.env
      standAt apos.atName
      let (f, first) ← holding [ov] (getMethod ov "reverse" pl)
      callWith pos f first (backTo pos (starEach [] X.env)) (backToKw pos (keywordEach [] X.env))) := by rfl)
    (hs : swapsWith (.Call (.Attribute o "reverse" apos) [] [] pos) none spos.line X.env = pure false := by rfl) : St X l ((c, LS as) :: n) (.Expr (.Call (.Attribute o "reverse" apos) [] [] pos) spos :: rest) Q :=
  St.expr (T := fun r l' n' => r = .none ∧ l' = l ∧ n' = (c, LS as.reverse) :: n)
    (Ev.meth0 (id := "list.reverse") (pl := pl) ho (fun v hv r s Q E G h => by
      cases hv
      obtain ⟨o, ho, vs, k, rfl, f⟩ := G.get (.head _)
      exact getMethod_list_of (items := vs.toArray) PySem.F.slot_list_reverse PySem.F.type_list_reverse ⟨_, ho, rfl, k, rfl⟩ ⟨_, ho, rfl⟩ h) (fun v hv => by
      cases hv
      refine .mk fun r s R E G q => ?_
      obtain ⟨o, ho, vs, k, rfl, f⟩ := G.get (.head _)
      refine call_meets PySem.F.slot_list_reverse ⟨_, ho, rfl⟩ PySem.F.entry_list_reverse (PySem.F.args_list_reverse_1 _) (PySem.AutoSeq1.list_reverse_list_0 c vs.toArray k (by rw [fits_size f]; exact hz)) ⟨ho, ?_⟩
      have e : Obj.mapSeq (fun x => x.reverse) (lo vs k) = lo vs.reverse (if vs.toArray.reverse.size == vs.toArray.size then k else k + 1) := by
        show Obj.mk _ _ (Data.seq _ _) _ = _
        congr 2
        apply Array.toList_inj.mp
        simp
      refine q .none l _ _ s.toks ⟨rfl, rfl, rfl⟩ (Good.upd G (fun b o hb e => (Heap.get?_update_ne _ _ _ _ hb).trans e) (Heap.get?_update_self _ ho ?_) ?_)
      · rw [e]; rfl
      · rw [e]; exact ⟨_, _, rfl, by rw [List.map_reverse]; exact fits_rev f⟩) hev)
    (fun v l₁ n₁ ⟨h1, h2, h3⟩ => ⟨fun a q => by (rw [h1] at q; exact Value.noConfusion q), by rw [h2, h3]; exact k⟩) hi hs

theorem WP.inL {v : Value} {ks : List Int} (hX : Ok Γ X d sc ns cl) (hv : (SV.i j).is (some v)) (hh : Has X n c (ks.map SV.i)) : WP X (compareOp .In v (.ref c)) l n (fun w l' n' => w = .bool (decide (j ∈ ks)) ∧ l' = l ∧ n' = n) := .mk fun r s R E G q => by
  obtain ⟨t, e1⟩ := hv
  cases e1
  obtain ⟨us, hL, f⟩ := hh l r _ G
  obtain ⟨o, ho, hc, k, hd⟩ := hL
  refine PySem.SeqAt.in_list_reads (Reads.list ho hc hd ((ints_of_fits f).reads _)) (Reads.int j t) (canLayAll_ints _) rfl (by
    have := hX.units
    have : min (PyData.depthAll (ks.map PyData.int)) (PyData.int j).depth ≤ (PyData.int j).depth := Nat.min_le_right _ _
    have e : (PyData.int j).depth = 0 := rfl
    (first | decide | lia | omega)) ?_
  have key : ∀ ks : List Int, (ks.map PyData.int).any (fun y => PyData.eqv y (.int j)) = decide (j ∈ ks) := by
    intro ks
    rw [List.any_map]
    induction ks with
    | nil => rfl
    | cons b ks ih =>
      rw [List.any_cons, ih]
      by_cases h : b = j
      · subst h; simp [PyData.eqv]
      · have h' : ¬ j = b := fun q => h q.symm
        simp [PyData.eqv, h, h']
  have e := key ks
  rw [e]
  have := q _ l n s.heap s.toks ⟨rfl, rfl, rfl⟩ G
  exact this
theorem EvT.inL {ks : List Int} (hX : Ok Γ X d sc ns cl) (h1 : EvS X l n e (.i j)) (h2 : EvS X l n e' (.v (.ref c))) (hh : Has X n c (ks.map SV.i)) (hm : behindInMarks .In e' = false := by with_unfolding_all rfl) : EvT X l n (.Compare e [.In] [e'] pos) (decide (j ∈ ks)) :=
  EvT.cmpG h1 (fun v l₁ n₁ ⟨h3, h4, h5⟩ => by
    subst h4; subst h5
    exact ⟨_, h2, fun u l₂ n₂ ⟨h6, h7, h8⟩ => by
      cases h6; subst h7; subst h8
      exact (WP.inL hX h3 hh).mono fun w l₃ n₃ ⟨a, b, c⟩ => ⟨a, b, c ▸ Led.le_refl _⟩⟩) hm

theorem EvT.list (h : EvS X l n e (.v (.ref c))) (hh : Has X n c as) (hz : as.length ≤ 2 ^ 24) (he : isTrue e X.env (eval e X.env) = (do let v ← eval e X.env; standAt e.pos; holding [v] (truthy v)) := by rfl) : EvT X l n e (!as.isEmpty) :=
  EvT.plain h (fun v r s Q E G hv q => by
    cases hv
    obtain ⟨us, hL, f⟩ := hh l r _ G
    have hsz := fits_size f
    refine wpAny_truthy_list hL (by rw [hsz]; (first | decide | lia | omega)) ?_
    have e : us.toArray.isEmpty = as.isEmpty := by
      cases as <;> cases us <;> first | rfl | (exact f.elim)
    rw [e]
    exact q s.heap _ G) he

theorem EvS.sum {ks : List Int} (hX : Ok Γ X d sc ns cl) (hf : EvS X l n (.Name x p₁) (.v (.builtin "sum"))) (h1 : EvS X l n e (.v (.ref c))) (hh : Has X n c (ks.map SV.i)) (he : starEach [e] X.env = [(false, eval e X.env)] := by rfl) :
    EvS X l n (.Call (.Name x p₁) [e] [] pos) (.i ks.sum) :=
  Ev.blt hf (EvA.cons h1 EvA.nil he) (fun vs hvs => by
    obtain ⟨v, rfl, hv1_⟩ := fits1 hvs
    have e1 := hv1_
    cases e1
    exact WP.sum hX.hh hh) he rfl

/-! truth as a value -/
theorem EvS.cmpV {op : CmpOp} {bl : Bool} {T : Value → Loc → Led → Prop} (h1 : Ev X l n e T)
    (h2 : ∀ v l₁ n₁, T v l₁ n₁ → ∃ T', Ev X l₁ n₁ e' T' ∧ ∀ u l₂ n₂, T' u l₂ n₂ → WP X (compareOp op v u) l₂ n₂ (fun w l₃ n₃ => w = .bool bl ∧ l₃ = l ∧ n.le n₃))
    (hm : behindInMarks op e' = false := by with_unfolding_all rfl) : EvS X l n (.Compare e [op] [e'] pos) (.v (.bool bl)) := .mk fun r s R E G q => by
  refine wpAny_Compare1 (h1.run r s _ E G ?_) hm
  intro v l₁ n₁ g₁ tk₁ hv G₁
  obtain ⟨T', h3, h4⟩ := h2 v l₁ n₁ hv
  refine h3.run r _ _ E G₁ ?_
  intro u l₂ n₂ g₂ tk₂ hu G₂
  refine (h4 u l₂ n₂ hu).run r _ _ E G₂ ?_
  rintro w l₃ n₃ g₃ tk₃ ⟨rfl, rfl, hle⟩ G₃
  exact q _ _ _ g₃ tk₃ ⟨rfl, rfl, rfl⟩ (G₃.le (Led.le_append hle r))
theorem EvS.cmpIV {op : CmpOp} {bl : Bool} (ha : EvS X l n e (.i j)) (hb : EvS X l n e' (.i k))
    (h : ∀ (t u : Tok) (s : Shared) (Q : Value → Shared → Prop) (E : Value → Shared → Prop), Q (.bool bl) s → wpAny (model X.prog X.w) X.A (compareOp op (.int j t) (.int k u)) Q E s)
    (hm : behindInMarks op e' = false := by with_unfolding_all rfl) : EvS X l n (.Compare e [op] [e'] pos) (.v (.bool bl)) :=
  EvS.cmpV ha (fun v l₁ n₁ ⟨⟨t, h3⟩, h4, h5⟩ => by
    cases h3; subst h4; subst h5
    exact ⟨_, hb, fun u l₂ n₂ ⟨⟨t', h6⟩, h7, h8⟩ => by
      cases h6; subst h7; subst h8
      exact .mk fun r s R E G q => h _ _ s R E (by have := q _ l₂ n₂ s.heap s.toks ⟨rfl, rfl, Led.le_refl _⟩ G; exact this)⟩) hm
theorem EvS.eqV (ha : EvS X l n e (.i j)) (hb : EvS X l n e' (.i k)) (hm : behindInMarks .Eq e' = false := by with_unfolding_all rfl) : EvS X l n (.Compare e [.Eq] [e'] pos) (.v (.bool (j == k))) := EvS.cmpIV ha hb (fun _ _ _ _ _ h => by with_reducible exact eq_int h) hm
/-! tuples of ints -/
theorem WP.neT {c c' : Addr} {js ks : List Int} (hX : Ok Γ X d sc ns cl) (h1 : (c, TS (js.map SV.i)) ∈ n) (h2 : (c', TS (ks.map SV.i)) ∈ n) : WP X (compareOp .NotEq (.ref c) (.ref c')) l n (fun w l' n' => w = .bool (!decide (js = ks)) ∧ l' = l ∧ n' = n) := .mk fun r s R E G q => by
  obtain ⟨o, ho, vs, k, rfl, f⟩ := G.get (List.mem_append_left r h1)
  obtain ⟨o', ho', us, k', rfl, f'⟩ := G.get (List.mem_append_left r h2)
  have sh : ∀ ks : List Int, PySem.SeqAt.shaped (.tuple (ks.map PyData.int)) = true := fun ks => by
    unfold PySem.SeqAt.shaped
    rw [Bool.and_eq_true]
    refine ⟨canLayAll_ints ks, decide_eq_true ?_⟩
    show (PyData.depthAll (ks.map PyData.int)) + 1 ≤ 64
    have : ∀ ks : List Int, PyData.depthAll (ks.map PyData.int) ≤ 0 := fun ks => by
      induction ks with
      | nil => exact Nat.le_refl _
      | cons b ks ih => show max _ _ ≤ 0; exact Nat.max_le.mpr ⟨Nat.le_refl _, ih⟩
    have := this ks
    (first | decide | lia | omega)
  refine ne_dataH (Reads.tuple ho rfl rfl ((ints_of_fits f).reads _)) (Reads.tuple ho' rfl rfl ((ints_of_fits f').reads _)) (sh js) (sh ks) (by have := hX.units; (first | decide | lia | omega)) ?_
  have e : PyData.eqv (.tuple (js.map PyData.int)) (.tuple (ks.map PyData.int)) = decide (js = ks) := by
    show PyData.eqvAll _ _ = _
    have key : ∀ js ks : List Int, PyData.eqvAll (js.map PyData.int) (ks.map PyData.int) = decide (js = ks) := by
      intro js
      induction js with
      | nil => intro ks; cases ks <;> simp [PyData.eqvAll]
      | cons a js ih =>
        intro ks
        cases ks with
        | nil => simp [PyData.eqvAll]
        | cons b ks =>
          simp only [List.map_cons, PyData.eqvAll, PyData.eqv, ih, List.cons.injEq, Bool.decide_and]
          congr 1
    exact key js ks
  rw [e]
  have := q _ l n s.heap s.toks ⟨rfl, rfl, rfl⟩ G
  exact this

end
end Mine
namespace Mine
open PySem PySem.W PyProof.Rows PySem.Calls PySem.Spec
set_option linter.unusedVariables false
set_option maxRecDepth 100000

inductive Pick (x : Addr × (Obj → Prop)) : Led → Led → Prop
  | here {l : Led} : Pick x (x :: l) l
  | there {y : Addr × (Obj → Prop)} {l l' : Led} : Pick x l l' → Pick x (y :: l) (y :: l')
theorem Pick.perm' {x : Addr × (Obj → Prop)} {l l' : Led} (h : Pick x l l') : List.Perm (x :: l') l := by
  induction h with
  | here => exact .refl _
  | there _ ih => exact (List.Perm.swap _ _ _).trans (List.Perm.cons _ ih)
theorem Pick.perm {x : Addr × (Obj → Prop)} {l l' l₁ : Led} (h : Pick x l l') (k : List.Perm l₁ l') : List.Perm (x :: l₁) l := (List.Perm.cons _ k).trans h.perm'
theorem Pick.le {x : Addr × (Obj → Prop)} {l l' l₁ : Led} (h : Pick x l l') (k : Led.le l₁ l') : Led.le (x :: l₁) l := Led.le_trans (Led.le_cons _ k) (Led.le_of_perm h.perm')

section
variable {Γ : Gd} {X : Cx} {d d' : Nat} {sc : Scope} {ns : List Str} {cl : List (Str × Addr)} {l l' : Loc} {n m n' : Led} {x y : Str} {pos p₁ p₂ tpos apos : Pos} {a b : SV} {as bs : Loc} {e e' o i e₁ e₂ : Expr} {es : List Expr} {c : Addr} {rest : List Stmt} {T : Value → Loc → Led → Prop} {j k : Int}

/-! calls with one argument of any kind -/
def Ev1 (X : Cx) (l : Loc) (n : Led) (e : Expr) (T : Value → Loc → Led → Prop) : Prop :=
  ∀ pos, WP X (spliced (backTo pos (starEach [e] X.env))) l n (fun vs l' n' => ∃ v, vs = [v] ∧ T v l' n')
theorem Ev1.of (h : Ev X l n e T) (he : starEach [e] X.env = [(false, eval e X.env)] := by rfl) : Ev1 X l n e T := fun pos => .mk fun r s R E G q => by
  rw [he]
  refine spliced_cons (h.run r s _ E G ?_)
  rintro v l₁ n₁ h₁ tk₁ hv G₁
  exact spliced_nil (q [v] l₁ n₁ h₁ tk₁ ⟨v, rfl, hv⟩ G₁)
theorem Ev.blt1 {id : String} {Q : Value → Loc → Led → Prop} (hf : EvS X l n (.Name x p₁) (.v (.builtin id))) (ha : Ev1 X l n e T)
    (hc : ∀ v l₁ n₁, T v l₁ n₁ → WP X (call (.builtin id) [v]) l₁ n₁ Q) (he : starEach [e] X.env = [(false, eval e X.env)] := by rfl) : Ev X l n (.Call (.Name x p₁) [e] [] pos) Q := .mk fun r s R E G q => by
  refine Call_Name rfl (hf.run r s _ E G ?_)
  rintro v l₁ n₁ h₁ tk₁ ⟨hv, rfl, rfl⟩ G₁
  cases hv
  have hpl' : (backTo pos (starEach [e] X.env)).any (·.1) = false := by rw [he]; rfl
  refine callWith_builtin hpl' ?_
  have key := (ha pos).run r { s with heap := h₁, toks := tk₁ } (fun vs s₁ => wpAny (model X.prog X.w) X.A (call (.builtin id) ([] ++ vs) []) R E s₁) E G₁ (by
    rintro vs l₂ n₂ h₂ tk₂ ⟨v, rfl, hv⟩ G₂
    exact (hc v _ _ hv).run r _ _ E G₂ fun a l' n' h' tk' x G' => q a l' n' h' tk' x G')
  rw [he] at key ⊢
  exact evalArgs_plain key
theorem Ev.callK1 {f : Addr} {Q : Value → Loc → Led → Prop} (hX : Ok Γ X d sc ns cl) (hf : EvS X l n (.Name x p₁) (.v (.ref f))) (hk : keepIn Γ.K (.ref f) = true) (ha : Ev1 X l n e T)
    (hc : ∀ v l₁ n₁, T v l₁ n₁ → WP X (call (.ref f) [v]) l₁ n₁ Q) (he : starEach [e] X.env = [(false, eval e X.env)] := by rfl) : Ev X l n (.Call (.Name x p₁) [e] [] pos) Q := .mk fun r s R E G q => by
  refine Call_Name rfl (hf.run r s _ E G ?_)
  rintro v l₁ n₁ h₁ tk₁ ⟨hv, rfl, rfl⟩ G₁
  cases hv
  refine callWith_K (K := Γ.K) (h₀ := X.g) hX.kin hk ?_ he rfl
  refine (ha pos).run r _ _ E G₁ ?_
  rintro vs l₂ n₂ h₂ tk₂ ⟨v, rfl, hv⟩ G₂
  obtain ⟨⟨us, fu, F⟩, _⟩ := id G₂
  refine ⟨fun a o e => F.keep a o (hX.kin a o e), ?_⟩
  exact (hc v _ _ hv).run r _ _ E G₂ fun a l' n' h' tk' x G' => q a l' n' h' tk' x G'
/-- a def of the text's, as WP of the call -/
theorem Fn.wp {f : Addr} {Q : Value → Led → Prop} (hX : Ok Γ X d sc ns cl) (hd : d' ≤ d) (hF : Fn Γ d' (.ref f) as n' Q) {vs : List Value} (hvs : fits as (vs.map some)) (hp : List.Perm (n' ++ m) n) :
    WP X (call (.ref f) vs) l n (fun v l' n₂ => l' = l ∧ ∃ n₁, n₂ = n₁ ++ m ∧ Q v n₁) :=
  (((hF X sc ns cl l vs (hX.mono hd) hvs).frame m).pre (Led.le_of_perm hp)).mono fun v l₁ n₁ ⟨n₂, h1, h2, h3⟩ => ⟨h2, n₂, h1, h3⟩

/-- a call that only reads its footprint -/
theorem EvS.fnF {f : Addr} {PF : Obj → Prop} (hPF : ∀ o, PF o → ∃ fd, o.data = .func fd) (hX : Ok Γ X d sc ns cl) (hf : EvS X l n (.Name x p₁) (.v (.ref f))) (hm : (f, PF) ∈ n) (ha : EvA X l n (e :: es) as)
    (hd : d' ≤ d) (hF : Fn Γ d' (.ref f) as n' (fun v n₁ => a.is (some v) ∧ n₁ = n')) (hp : List.Perm (n' ++ m) n) (he : starEach (e :: es) X.env = (false, eval e X.env) :: starEach es X.env := by rfl) (hpl : (starEach es X.env).any (·.1) = false := by rfl) :
    EvS X l n (.Call (.Name x p₁) (e :: es) [] pos) a :=
  WP.weaken (Ev.fnF hPF hX hf hm ha hd hF hp he hpl) fun v l₁ n₁ ⟨h1, n₂, h2, h3, h4⟩ => ⟨n, by subst h4; rw [h2]; exact Led.le_of_perm hp.symm, h3, h1, rfl⟩

theorem EvS.globI {i : Int} {t : Tok} (h : EvS X l n e (.v (.int i t))) : EvS X l n e (.i i) := h.mono_sv fun o q => ⟨t, q⟩
def globIs (K : Frag) (x : Str) (i : Int) : Bool := match nsIn K mainGlobals x with
  | some (some (.int j _)) => j == i
  | _ => false
theorem EvS.globN {i : Int} (hX : Ok Γ X d sc ns cl) (hk : sc.names.lookup x = some .globalImplicit) (hg : globIs Γ.K x i = true) (hd : (x == ("__debug__" : Str)) = false := by decide) : EvS X l n (.Name x pos) (.i i) := by
  unfold globIs at hg
  split at hg
  · next j t q =>
    have e : j = i := by simpa using hg
    subst e
    exact (EvS.glob hX hk q hd).globI
  · cases hg
theorem FnO.isFn {name qual : Str} {params : Arguments} {body : List Stmt} {scope : Scope} {clos : List (Str × Addr)} {c' : Addr} {PF : Obj → Prop} (h : PF = FnO name qual params body scope clos c') : ∀ o, PF o → ∃ fd, o.data = .func fd := fun o hp => by
  subst h
  obtain ⟨doc, pm, ctv, rfl⟩ := hp
  exact ⟨_, rfl⟩

theorem Ev.next {k : Nat} {i : Addr} (hf : EvS X l ((i, ItL c k) :: n) (.Name x p₁) (.v (.builtin "next"))) (h1 : EvS X l ((i, ItL c k) :: n) e (.v (.ref i))) (hh : Has X n c as) (ha : as[k]? = some a) (he : starEach [e] X.env = [(false, eval e X.env)] := by rfl) :
    Ev X l ((i, ItL c k) :: n) (.Call (.Name x p₁) [e] [] pos) (fun v l' n' => a.is (some v) ∧ l' = l ∧ n' = (i, ItL c (k + 1)) :: n) :=
  Ev.blt hf (EvA.cons h1 EvA.nil he) (fun vs hvs => by
    obtain ⟨v, rfl, hv1_⟩ := fits1 hvs
    have e1 := hv1_
    cases e1
    exact WP.nextCall hh ha) he rfl
end

/-! ### Plain facts of bits -/
theorem and_pow_nat (x i : Nat) : x &&& 2 ^ i = x / 2 ^ i % 2 * 2 ^ i := by
  have hb : x.testBit i = decide (x / 2 ^ i % 2 = 1) := Nat.testBit_eq_decide_div_mod_eq
  have h2 : x / 2 ^ i % 2 < 2 := Nat.mod_lt _ (by decide)
  apply Nat.eq_of_testBit_eq
  intro j
  rw [Nat.testBit_and, Nat.testBit_two_pow]
  rcases Nat.lt_or_ge (x / 2 ^ i % 2) 1 with h | h
  · have e : x / 2 ^ i % 2 = 0 := by (first | decide | lia | omega)
    rw [e, Nat.zero_mul, Nat.zero_testBit]
    by_cases hj : i = j
    · subst hj; rw [hb, e]; rfl
    · simp [hj]
  · have e : x / 2 ^ i % 2 = 1 := by (first | decide | lia | omega)
    rw [e, Nat.one_mul, Nat.testBit_two_pow]
    by_cases hj : i = j
    · subst hj; rw [hb, e]; simp
    · simp [hj]
theorem bitAnd_pow {x : Int} (hx : 0 ≤ x) (i : Nat) : Builtin.bitAnd x (2 ^ i) = x / 2 ^ i % 2 * 2 ^ i := by
  obtain ⟨k, rfl⟩ := Int.eq_ofNat_of_zero_le hx
  have e : (2 : Int) ^ i = ((2 ^ i : Nat) : Int) := by simp
  rw [e, bitAnd_pp (Int.natCast_nonneg _) (Int.natCast_nonneg _)]
  simp only [Int.toNat_natCast]
  rw [and_pow_nat]
  simp
theorem and_split_nat (x y s : Nat) (h : y < 2 ^ s) : (x * 2 ^ s) &&& y = 0 := by
  apply Nat.eq_of_testBit_eq
  intro i
  rw [Nat.testBit_and, Nat.zero_testBit]
  by_cases hi : i < s
  · have : (x * 2 ^ s).testBit i = false := by
      rw [Nat.testBit_eq_decide_div_mod_eq]
      have e : x * 2 ^ s / 2 ^ i = x * 2 ^ (s - i - 1) * 2 := by
        rw [show s = i + ((s - i - 1) + 1) by (first | decide | lia | omega), Nat.pow_add, Nat.pow_succ]
        rw [show x * (2 ^ i * (2 ^ (s - i - 1) * 2)) = 2 ^ i * (x * 2 ^ (s - i - 1) * 2) by
          rw [Nat.mul_left_comm, Nat.mul_assoc]]
        rw [Nat.mul_div_cancel_left _ (Nat.two_pow_pos i)]
        congr 3
        (first | decide | lia | omega)
      rw [e, Nat.mul_mod_left]
      rfl
    rw [this, Bool.false_and]
  · have : y.testBit i = false := Nat.testBit_lt_two_pow (Nat.lt_of_lt_of_le h (Nat.pow_le_pow_right (by decide) (by (first | decide | lia | omega))))
    rw [this, Bool.and_false]
theorem bitAnd_split {x y : Int} (hx : 0 ≤ x) (hy : 0 ≤ y) (s : Nat) (h : y < 2 ^ s) : Builtin.bitAnd (x * 2 ^ s) y = 0 := by
  obtain ⟨k, rfl⟩ := Int.eq_ofNat_of_zero_le hx
  obtain ⟨j, rfl⟩ := Int.eq_ofNat_of_zero_le hy
  have e : (2 : Int) ^ s = ((2 ^ s : Nat) : Int) := by simp
  rw [e] at h ⊢
  rw [← Int.natCast_mul, bitAnd_pp (Int.natCast_nonneg _) (Int.natCast_nonneg _)]
  simp only [Int.toNat_natCast]
  rw [and_split_nat _ _ _ (Int.ofNat_lt.mp h)]
  rfl
theorem bitOr_split {x y : Int} (hx : 0 ≤ x) (hy : 0 ≤ y) (s : Nat) (h : y < 2 ^ s) : Builtin.bitOr (x * 2 ^ s) y = x * 2 ^ s + y := by
  rw [bitOr_and, bitAnd_split hx hy s h]; (first | decide | lia | omega)
theorem and_top_nat (x s : Nat) : x &&& (x / 2 ^ s * 2 ^ s) = x / 2 ^ s * 2 ^ s := by
  apply Nat.eq_of_testBit_eq
  intro i
  rw [Nat.testBit_and, ← Nat.shiftRight_eq_div_pow, ← Nat.shiftLeft_eq, Nat.testBit_shiftLeft]
  by_cases hi : i < s
  · have : decide (i ≥ s) = false := decide_eq_false (by (first | decide | lia | omega))
    rw [this, Bool.false_and, Bool.and_false]
  · have : decide (i ≥ s) = true := decide_eq_true (by (first | decide | lia | omega))
    rw [this, Bool.true_and, Nat.testBit_shiftRight, show s + (i - s) = i by (first | decide | lia | omega), Bool.and_self]
theorem bitXor_top {x : Int} (hx : 0 ≤ x) (s : Nat) : Builtin.bitXor x (x / 2 ^ s * 2 ^ s) = x % 2 ^ s := by
  rw [PyProof.Rows.bitXor_and]
  have h : Builtin.bitAnd x (x / 2 ^ s * 2 ^ s) = x / 2 ^ s * 2 ^ s := by
    obtain ⟨k, rfl⟩ := Int.eq_ofNat_of_zero_le hx
    have e : (2 : Int) ^ s = ((2 ^ s : Nat) : Int) := by simp
    rw [e, ← Int.natCast_ediv, ← Int.natCast_mul, bitAnd_pp (Int.natCast_nonneg _) (Int.natCast_nonneg _)]
    simp only [Int.toNat_natCast]
    rw [and_top_nat]
  rw [h]
  have := Int.emod_add_mul_ediv x (2 ^ s)
  rw [Int.mul_comm] at this
  (first | decide | lia | omega)
theorem bitAnd_64 {b : Int} (h : 0 ≤ b) : Builtin.bitAnd b 64 = b / 64 % 2 * 64 := bitAnd_pow h 6
theorem intBits_eq (a : Int) : Builtin.Int.intBits a = if a = 0 then 0 else a.natAbs.log2 + 1 := by
  unfold Builtin.Int.intBits
  by_cases h : a = 0
  · simp [h]
  · simp [h]
/-- below 2 to its bits -/
theorem lt_intBits (a : Int) : a.natAbs < 2 ^ Builtin.Int.intBits a := by
  rw [intBits_eq]
  split
  · next h => subst h; decide
  · exact Nat.lt_log2_self
end Mine
namespace Mine
open PySem PySem.W PyProof.Rows PySem.Calls PySem.Spec
set_option linter.unusedVariables false
set_option maxRecDepth 100000

/-! ### Texts cut at ", " -/
abbrev sepS : Str := Str.ofString ", "
/-- each comma has a blank behind it; so many commas -/
inductive Seam : List Nat → Nat → Prop
  | nil : Seam [] 0
  | skip {c : Nat} {cs : List Nat} {k : Nat} : c ≠ 44 → Seam cs k → Seam (c :: cs) k
  | sep {cs : List Nat} {k : Nat} : Seam cs k → Seam (44 :: 32 :: cs) (k + 1)
theorem Seam.app {cs : List Nat} {k : Nat} (h : Seam cs k) : ∀ p : List Nat, (∀ c ∈ p, c ≠ 44) → Seam (p ++ cs) k
  | [], _ => h
  | c :: p, hp => .skip (hp c (.head _)) (h.app p fun x hx => hp x (.tail _ hx))
theorem sep_list : sepS.cps.toList = [44, 32] := by decide +kernel
theorem Seam.join : ∀ (xs : List Str), (∀ x ∈ xs, ∀ c ∈ x.cps.toList, c ≠ 44) → Seam (Str.join sepS xs).cps.toList (xs.length - 1)
  | [], _ => by
    have : (Str.join sepS []).cps.toList = [] := by decide +kernel
    rw [this]; exact .nil
  | [x], h => by
    have := Seam.nil.app x.cps.toList (h x (.head _))
    rw [List.append_nil] at this
    exact this
  | x :: y :: r, h => by
    have ih := Seam.join (y :: r) fun z hz => h z (.tail _ hz)
    have e : (Str.join sepS (x :: y :: r)).cps.toList = x.cps.toList ++ (44 :: 32 :: (Str.join sepS (y :: r)).cps.toList) := by
      show (x ++ sepS ++ Str.join sepS (y :: r)).cps.toList = _
      simp only [Str.cps_append, Array.toList_append, sep_list]
      simp
    rw [e]
    exact (Seam.sep ih).app _ (h x (.head _))

open StrLaws in
theorem occ_count (x : Str) (lim : Nat) (hl : lim = x.length + 1) : ∀ {cs : List Nat} {k : Nat}, Seam cs k → ∀ (i : Nat) (st : Array Nat × Nat), x.cps.toList.drop i = cs → i ≤ x.length → st.1.size ≤ i → st.2 ≤ i →
    (forIn (List.range' i (x.length + 1 - i)) st (occBody x sepS x.length lim)).run.fst.size = st.1.size + k := by
  intro cs k h
  have hlen : x.cps.toList.length = x.length := by simp [Str.length]
  have hs2 : sepS.length = 2 := by decide +kernel
  induction h with
  | nil =>
    intro i st e hi h1 h2
    have : i = x.length := by
      have := congrArg List.length e
      rw [List.length_drop, hlen] at this
      simp at this
      (first | decide | lia | omega)
    subst this
    rw [show x.length + 1 - x.length = 1 by (first | decide | lia | omega)]
    rw [show List.range' x.length 1 = [x.length] from rfl, List.forIn_cons]
    unfold occBody
    rw [if_neg (by rw [hs2]; (first | decide | lia | omega))]
    rfl
  | @skip c cs k hc hr ih =>
    intro i st e hi h1 h2
    have hi' : i < x.length := by
      have := congrArg List.length e
      rw [List.length_drop, hlen, List.length_cons] at this
      (first | decide | lia | omega)
    rw [show x.length + 1 - i = (x.length + 1 - (i + 1)) + 1 by (first | decide | lia | omega), List.range'_succ, List.forIn_cons]
    have hno : ¬ (((st.fst.size < lim ∧ st.snd ≤ i) ∧ i + sepS.length ≤ x.length) ∧ Builtin.Str.subAt x sepS i = true) := fun q => by
      have q2 := q.2
      rw [subAt_eq, e, hs2, sep_list] at q2
      have q3 := eq_of_beq q2
      rw [List.take_succ_cons] at q3
      exact hc (List.cons.inj q3).1
    unfold occBody
    rw [if_neg hno]
    exact ih (i + 1) (st.fst, st.snd) (by rw [← List.drop_drop, e]; rfl) hi' (by show st.1.size ≤ i + 1; (first | decide | lia | omega)) (by show st.2 ≤ i + 1; (first | decide | lia | omega))
  | @sep cs k hr ih =>
    intro i st e hi h1 h2
    have hi' : i + 2 ≤ x.length := by
      have := congrArg List.length e
      rw [List.length_drop, hlen, List.length_cons, List.length_cons] at this
      (first | decide | lia | omega)
    rw [show x.length + 1 - i = (x.length + 1 - (i + 2)) + 1 + 1 by (first | decide | lia | omega), List.range'_succ, List.forIn_cons]
    have hyes : ((st.fst.size < lim ∧ st.snd ≤ i) ∧ i + sepS.length ≤ x.length) ∧ Builtin.Str.subAt x sepS i = true := by
      refine ⟨⟨⟨by (first | decide | lia | omega), h2⟩, by rw [hs2]; (first | decide | lia | omega)⟩, ?_⟩
      rw [subAt_eq, e, hs2, sep_list]
      rfl
    have step2 : ∀ st' : Array Nat × Nat, st'.1.size = st.1.size + 1 → st'.2 = i + 2 → (forIn (List.range' (i + 1) (x.length + 1 - (i + 2) + 1)) st' (occBody x sepS x.length lim)).run.fst.size = st.1.size + (k + 1) := by
      intro st' q1 q2
      rw [List.range'_succ, List.forIn_cons]
      unfold occBody
      rw [if_neg (by rw [hs2]; intro q; have h3 := q.1.1.2; (first | decide | lia | omega))]
      have := ih (i + 1 + 1) (st'.fst, st'.snd) (by rw [Nat.add_assoc, ← List.drop_drop, e]; rfl) (by (first | decide | lia | omega)) (by show st'.1.size ≤ i + 1 + 1; (first | decide | lia | omega)) (by show st'.2 ≤ i + 1 + 1; (first | decide | lia | omega))
      refine Eq.trans this ?_
      show st'.1.size + k = _
      (first | decide | lia | omega)
    unfold occBody
    rw [if_pos hyes]
    exact step2 (st.fst.push i, i + sepS.length) (by rw [Array.size_push]) (by rw [hs2])
theorem occ_seam {x : Str} {k : Nat} (h : Seam x.cps.toList k) : (Builtin.Str.occurrences x sepS 0 x.length (x.length + 1)).length = k := by
  rw [StrLaws.occ_eq]
  have := occ_count x (x.length + 1) rfl h 0 (#[], 0) rfl (Nat.zero_le _) (Nat.le_refl _) (Nat.le_refl _)
  rw [Array.length_toList]
  rw [show x.length + 1 - 0 = x.length + 1 by (first | decide | lia | omega)] at this ⊢
  rw [this]
  simp

section
variable {Γ : Gd} {X : Cx} {d d' : Nat} {sc : Scope} {ns : List Str} {cl : List (Str × Addr)} {l l' : Loc} {n m n' : Led} {x y : Str} {pos p₁ p₂ tpos apos : Pos} {a b : SV} {as bs : Loc} {e e' o i e₁ e₂ : Expr} {es : List Expr} {c : Addr} {T : Value → Loc → Led → Prop} {j k : Int}

theorem EvS.str {u : Str} {k : Nat} : EvS X l n (.Constant (.str u) k pos) (.s u) := .mk fun r s R E G q =>
  wpAny_Constant_str (q _ l n s.heap (s.toks + 1) ⟨⟨_, rfl⟩, rfl, rfl⟩ G)
theorem EvS.hex (hf : EvS X l n (.Name x p₁) (.v (.builtin "hex"))) (h1 : EvS X l n e (.i j)) (hz : (baseText "0x" 16 j).length ≤ 2 ^ 24) (he : starEach [e] X.env = [(false, eval e X.env)] := by rfl) :
    EvS X l n (.Call (.Name x p₁) [e] [] pos) (.s (baseText "0x" 16 j)) :=
  Ev.blt hf (EvA.cons h1 EvA.nil he) (fun vs hvs => by
    obtain ⟨v, rfl, hv1_⟩ := fits1 hvs
    obtain ⟨t, e1⟩ := hv1_
    cases e1
    exact .mk fun r s R E G q => P.hex_of_int (q _ l n s.heap _ ⟨⟨_, rfl⟩, rfl, rfl⟩ G) hz) he rfl

theorem strs_of_fits : ∀ {xs : List Str} {vs : List Value}, fits (xs.map SV.s) (vs.map some) → ∃ l : List (Str × Tok), vs = strValues l ∧ l.map (·.1) = xs
  | [], [], _ => ⟨[], rfl, rfl⟩
  | x :: xs, v :: vs, ⟨⟨t, h⟩, k⟩ => by
    cases h
    obtain ⟨l, e1, e2⟩ := strs_of_fits k
    exact ⟨(x, t) :: l, by rw [e1]; rfl, by rw [← e2]; rfl⟩
  | [], _ :: _, h => h.elim
  | _ :: _, [], h => h.elim

/-- ', '.join(names) -/
theorem EvS.join {pl : Sem Bool} {sp : Str} {xs : List Str} (h1 : EvS X l n o (.s sp)) (h2 : EvS X l n e (.v (.ref c))) (hh : Has X n c (xs.map SV.s)) (hl : Builtin.Str.tooLong (xs.toArray.foldl (· + ·.length + sp.length) 0) = false) (hz : (Str.join sp xs).length ≤ 2 ^ 24)
    (hev : eval (.Call (.Attribute o "join" apos) [e] [] pos) X.env = (do
      let ov ← eval o X.env
      standAt apos.atName
      let (f, first) ← holding [ov] (getMethod ov "join" pl)
      callWith pos f first (backTo pos (starEach [e] X.env)) (backToKw pos (keywordEach [] X.env))) := by rfl)
    (he : starEach [e] X.env = [(false, eval e X.env)] := by rfl) : EvS X l n (.Call (.Attribute o "join" apos) [e] [] pos) (.s (Str.join sp xs)) :=
  Ev.meth (id := "str.join") (pl := pl) h1 (fun v hv r s Q E G h => by
    obtain ⟨t, e1⟩ := hv
    cases e1
    exact GM.join h) (EvA.cons h2 EvA.nil he) (fun v vs hv hvs => by
    obtain ⟨t, e1⟩ := hv
    cases e1
    obtain ⟨u, rfl, hv1_⟩ := fits1 hvs
    have e1 := hv1_
    cases e1
    refine .mk fun r s R E G q => ?_
    obtain ⟨us, hL, f⟩ := hh l r _ G
    obtain ⟨ps, e2, e3⟩ := strs_of_fits f
    rw [e2] at hL
    refine call_meets PySem.F.slot_str_join (typeIs_str _ _ _) PySem.F.entry_str_join (PySem.F.args_str_join_2 _ _) (meets_str_join_list sp t c ps (by rw [e3]; exact hl)) ⟨hL, ?_⟩
    have key : ∀ (qs : List (Str × Tok)), qs.map (·.1) = xs → (joinMade sp qs).post (fun v s' => R v s') s := fun qs e => by
      subst e
      have gj := StrLaws.glued_eq_join sp
      match qs, hz, q with
      | [p], hz, q =>
        have := q (.str p.1 p.2) l n s.heap s.toks ⟨⟨_, rfl⟩, rfl, rfl⟩ G
        exact this
      | [], hz, q => exact ⟨by rw [gj]; exact hz, by rw [gj]; exact q _ l n s.heap _ ⟨⟨_, rfl⟩, rfl, rfl⟩ G⟩
      | p :: p' :: ps, hz, q => exact ⟨by rw [gj]; exact hz, by rw [gj]; exact q _ l n s.heap _ ⟨⟨_, rfl⟩, rfl, rfl⟩ G⟩
    exact key ps e3) hev he rfl

theorem fits_anys : ∀ (vs : List Value) (k : Nat), vs.length = k → fits (List.replicate k .any) (vs.map some)
  | [], _, rfl => trivial
  | _ :: vs, _, rfl => ⟨trivial, fits_anys vs _ rfl⟩
/-- x.split(', ') -/
theorem Ev.split {pl : Sem Bool} {k : Nat} {T : Value → Loc → Led → Prop} (h1 : Ev X l n o T) (hT : ∀ v l₁ n₁, T v l₁ n₁ → ∃ x t, v = .str x t ∧ Seam x.cps.toList k ∧ x.length ≤ 2 ^ 20 ∧ l₁ = l ∧ n₁ = n)
    (hev : eval (.Call (.Attribute o "split" apos) [.Constant (.str sepS) 0 p₁] [] pos) X.env = (do
      let ov ← eval o X.env
      standAt apos.atName
      let (f, first) ← holding [ov] (getMethod ov "split" pl)
      callWith pos f first (backTo pos (starEach [.Constant (.str sepS) 0 p₁] X.env)) (backToKw pos (keywordEach [] X.env))) := by rfl) :
    EvN X l n (.Call (.Attribute o "split" apos) [.Constant (.str sepS) 0 p₁] [] pos) (LS (List.replicate (k + 1) .any)) := .mk fun r s R E G q => by
  refine methodCall_KW (h1.run r s _ E G ?_) hev
  intro v l₁ n₁ h₁ tk₁ hv G₁
  obtain ⟨x, t, rfl, hS, hz, rfl, rfl⟩ := hT v l₁ n₁ hv
  refine GM.split ?_
  have hocc := occ_seam hS
  have hs2 : sepS.length = 2 := by decide +kernel
  refine callWith_builtin rfl ?_
  have he : starEach [.Constant (.str sepS) 0 p₁] X.env = [(false, eval (.Constant (.str sepS) 0 p₁) X.env)] := rfl
  have key : (∀ (a : List Value) (l' : Loc) (n' : Led) (h' : Heap) (tk' : Nat), (fits [.s sepS] (a.map some) ∧ l' = l₁ ∧ n' = n₁) → Good X l' (n' ++ r) h' → wpAny (model X.prog X.w) X.A (call (.builtin "str.split") ([.str x t] ++ a) []) R E { s with heap := h', toks := tk' }) → _ := ((EvA.cons EvS.str EvA.nil : EvA X l₁ n₁ [.Constant (.str sepS) 0 p₁] [.s sepS]) pos).run r { s with heap := h₁, toks := tk₁ } (fun vs s₁ => wpAny (model X.prog X.w) X.A (call (.builtin "str.split") ([.str x t] ++ vs) []) R E s₁) E G₁
  have key2 := key ?_
  · rw [he] at key2 ⊢
    exact evalArgs_plain key2
  rintro vs l₂ n₂ h₂ tk₂ ⟨hvs, rfl, rfl⟩ G₂
  obtain ⟨u, rfl, hv1_⟩ := fits1 hvs
  obtain ⟨tu, e1⟩ := hv1_
  cases e1
  show wpAny _ _ (call (.builtin "str.split") [.str x t, .str sepS tu]) _ _ _
  have fin : ∀ (vs : List Value) (tk : Nat), vs.length = k + 1 → R (.ref h₂.objs.size) { s with heap := h₂.push { cls := .type "list", data := .seq vs.toArray }, toks := tk } := fun vs tk hvl =>
    q _ l₂ _ _ tk ⟨_, rfl, rfl, rfl⟩ (Good.push G₂ rfl ⟨vs, 0, rfl, fits_anys vs _ hvl⟩)
  by_cases hc : (decide (x.length < sepS.length) || decide (Builtin.Str.strKind x < Builtin.Str.strKind sepS)) = true
  · have hk : k = 0 := by
      have hkd : ¬ Builtin.Str.strKind x < Builtin.Str.strKind sepS := by
        have : Builtin.Str.strKind sepS = 1 := by decide +kernel
        rw [this]
        unfold Builtin.Str.strKind
        split <;> (try split) <;> (first | decide | lia | omega)
      have hlt : x.length < 2 := by
        rw [decide_eq_false hkd, Bool.or_false, hs2] at hc
        exact of_decide_eq_true hc
      have hlen : x.cps.toList.length = x.length := by simp [Str.length]
      have small : ∀ (cs : List Nat) (k : Nat), Seam cs k → cs.length < 2 → k = 0 := by
        intro cs k h hl
        induction h with
        | nil => rfl
        | skip _ _ ih => exact ih (by rw [List.length_cons] at hl; (first | decide | lia | omega))
        | sep _ _ => rw [List.length_cons, List.length_cons] at hl; (first | decide | lia | omega)
      exact small _ _ hS (by (first | decide | lia | omega))
    refine call_meets PySem.F.slot_str_split (typeIs_str _ _ _) PySem.F.entry_str_split (PySem.F.args_str_split_2 _ _) (meets_str_split_cannot_occur x sepS t _ hc) ?_
    exact fin [.str x t] _ (by rw [hk]; rfl)
  · replace hc := eq_false_of_ne_true hc
    by_cases hf : (Builtin.Str.occurrences x sepS 0 x.length (x.length + 1)).isEmpty = true
    · have hk : k = 0 := by
        rw [← hocc, List.isEmpty_iff.mp hf]; rfl
      refine call_meets PySem.F.slot_str_split (typeIs_str _ _ _) PySem.F.entry_str_split (PySem.F.args_str_split_2 _ _) (meets_str_split_not_found x sepS t _ hc (by decide +kernel) hf) ?_
      exact fin [.str x t] _ (by rw [hk]; rfl)
    · replace hf := eq_false_of_ne_true hf
      have hl : (Builtin.Str.partsBetween x (Builtin.Str.occurrences x sepS 0 x.length (x.length + 1)) sepS.length).length = k + 1 := by
        rw [len_partsBetween, hocc]
      have hkz : k ≤ x.length + 1 := by rw [← hocc]; exact StrLaws.occ_length_le _ _ _ _ _
      refine call_meets PySem.F.slot_str_split (typeIs_str _ _ _) PySem.F.entry_str_split (PySem.F.args_str_split_2 _ _) (meets_str_split_sep x sepS t _ hc (by decide +kernel) hf (by rw [sizeLine_eq]; (first | decide | lia | omega)) (by rw [hl, sizeLine_eq]; (first | decide | lia | omega))) ?_
      exact fin _ _ (by rw [strsFrom_length, hl])

theorem EvS.len1 (hf : EvS X l n (.Name x p₁) (.v (.builtin "len"))) (h1 : EvN X l n e (LS as)) (hz : as.length ≤ 2 ^ 24) (he : starEach [e] X.env = [(false, eval e X.env)] := by rfl) :
    EvS X l n (.Call (.Name x p₁) [e] [] pos) (.i as.length) :=
  WP.weaken (Q := fun v l' n' => (SV.i as.length).is (some v) ∧ l' = l ∧ ∃ q, n' = q :: n) (Ev.blt1 hf (Ev1.of h1 he) (fun v l₁ n₁ ⟨c, h2, h3, h4⟩ => by
    subst h2; subst h3; subst h4
    refine .mk fun r s R E G q => ?_
    obtain ⟨us, hL, fu⟩ := (Has.mem (X := X) (n := (c, LS as) :: n) (.head _)) _ r _ G
    have hsz := fits_size fu
    refine call_len_list hL (by rw [hsz]; (first | decide | lia | omega)) ?_
    rw [hsz]
    exact q _ _ _ s.heap _ ⟨⟨_, rfl⟩, rfl, _, rfl⟩ G) he) fun v l₁ n₁ ⟨h1, h2, q, h3⟩ => ⟨n, by rw [h3]; exact Led.le_skip _ (Led.le_refl _), h1, h2, rfl⟩

/-! a dict of texts by ints, read -/
def dictOpt (o : Option Obj) (k : Int) : Option Str := match o with
  | some ⟨_, _, .dict es _, _⟩ => (match findBy Value.isInt es k with
    | some (.str x _) => some x
    | _ => none)
  | _ => none
def dictChk (o : Option Obj) : Bool := match o with
  | some ⟨.type cn, none, .dict es _, sl⟩ => cn == "dict" && sl.size == 0 && es.all fun e => match e.key, e.val with
    | .int k _, .str _ _ => e.hash == hashInt k
    | _, _ => false
  | _ => false
theorem findBy_mem : ∀ (es : Array DictEntry) (k : Int) (v : Value), findBy Value.isInt es k = some v → ∃ e ∈ es, e.val = v := fun es k v h => by
  unfold findBy at h
  obtain ⟨e, he, hv⟩ := Option.map_eq_some_iff.mp h
  exact ⟨e, Array.mem_of_find?_eq_some he, hv⟩
theorem EvS.dget {pl : Sem Bool} {dd : Addr} {u v : Str} (hX : Ok Γ X d sc ns cl) (hc : dictChk (Γ.K.lookup dd) = true) (hm : (dd == sysModules) = false) (hv : (match dictOpt (Γ.K.lookup dd) k with | some x => x | none => u) = v)
    (h0 : EvS X l n o (.v (.ref dd))) (h1 : EvS X l n e₁ (.i k)) (h2 : EvS X l n e₂ (.s u))
    (hev : eval (.Call (.Attribute o "get" apos) [e₁, e₂] [] pos) X.env = (do
      let ov ← eval o X.env
      standAt apos.atName
      let (f, first) ← holding [ov] (getMethod ov "get" pl)
      callWith pos f first (backTo pos (starEach [e₁, e₂] X.env)) (backToKw pos (keywordEach [] X.env))) := by rfl)
    (he : starEach [e₁, e₂] X.env = [(false, eval e₁ X.env), (false, eval e₂ X.env)] := by rfl) (he2 : starEach [e₂] X.env = [(false, eval e₂ X.env)] := by rfl) : EvS X l n (.Call (.Attribute o "get" apos) [e₁, e₂] [] pos) (.s v) := by
  have key : ∀ h : Heap, Γ.K.In h → h.MapOf (PySem.intKind X.prog X.w) dd (fun k => match Γ.K.lookup dd with | some ⟨_, _, .dict es _, _⟩ => findBy Value.isInt es k | _ => none) := by
    intro h hK
    have hK' := hK dd
    revert hc hK'
    generalize Γ.K.lookup dd = oo
    intro hc hK'
    unfold dictChk at hc
    split at hc
    · next cn es sz sl =>
      simp only [Bool.and_eq_true] at hc
      obtain ⟨⟨c1, c2⟩, c3⟩ := hc
      have c1' : cn = "dict" := eq_of_beq c1
      have c2' : sl = #[] := Array.eq_empty_of_size_eq_zero (eq_of_beq c2)
      subst c1' c2'
      refine ⟨_, es, sz, hK' _ rfl, ⟨rfl, rfl, rfl⟩, rfl, fun e he => ?_, fun k => rfl⟩
      have c4 := Array.all_eq_true_iff_forall_mem.mp c3 e he
      split at c4
      · next j t _ _ h1 h2 => exact ⟨j, by rw [h1]; show Value.isInt j (.int j t) = true; simp [Value.isInt], eq_of_beq c4⟩
      · cases c4
    · cases hc
  refine Ev.meth (id := "dict.get") (pl := pl) h0 (fun v hv r s Q E G h => ?_) (EvA.cons h1 (EvA.cons h2 EvA.nil he2) (he.trans (by rw [he2]))) (fun v' vs hv' hvs => ?_) hev (he.trans (by rw [he2])) (by rw [he2]; rfl)
  · cases hv
    obtain ⟨⟨us, fu, F⟩, _⟩ := id G
    have hM := key s.heap (fun a o e => F.keep a o (hX.kin a o e))
    exact getMethod_builtin hM.typeIs PySem.F.plainAttrs_dict PySem.F.slot_dict_get PySem.F.type_dict_get hM.noDict h
  · cases hv'
    obtain ⟨a, b, rfl, hv1_, hv2_⟩ := fits2 hvs
    obtain ⟨ta, e1⟩ := hv1_
    cases e1
    obtain ⟨tb, e1⟩ := hv2_
    cases e1
    refine .mk fun r s R E G q => ?_
    obtain ⟨⟨us, fu, F⟩, _⟩ := id G
    have hM := key s.heap (fun a o e => F.keep a o (hX.kin a o e))
    refine call_meetsIn PySem.F.slot_dict_get hM.typeIs PySem.F.entry_dict_get (PySem.F.args_dict_get_3 _ _ _) (meets_dict_get_default (PySem.intKind X.prog X.w) dd (k := k) (by show Value.isInt k (.int k ta) = true; simp [Value.isInt]) hm _) ⟨_, hM, ?_⟩
    refine q _ l n s.heap _ ⟨?_, rfl, rfl⟩ G
    subst hv
    revert hc
    unfold dictOpt
    generalize Γ.K.lookup dd = oo
    intro hc
    unfold dictChk at hc
    split at hc
    · next cn es sz sl =>
      simp only [Bool.and_eq_true] at hc
      obtain ⟨_, c3⟩ := hc
      dsimp only
      cases q : findBy Value.isInt es k with
      | none => exact ⟨tb, rfl⟩
      | some x =>
        obtain ⟨e, he, hx⟩ := findBy_mem es k x q
        have c4 := Array.all_eq_true_iff_forall_mem.mp c3 e he
        split at c4
        · next j t y ty h1 h2 =>
          rw [h2] at hx
          subst hx
          exact ⟨ty, rfl⟩
        · cases c4
    · cases hc
end
end Mine
namespace Mine
open PySem PySem.W PyProof.Rows PySem.Calls PySem.Spec
set_option linter.unusedVariables false
set_option maxRecDepth 100000

theorem bindL_all (k : Str → Option NameKind) : ∀ (binds : List (Str × Value)) (m : Str → Option Value), (∀ x ∈ binds, k x.1 = some .local) → bindL k binds m = fun y => (binds.reverse.lookup y).or (m y)
  | [], m, _ => by simp [bindL]
  | (n, v) :: r, m, h => by
    rw [bindL, if_pos (h _ (.head _)), bindL_all k r _ fun x hx => h x (.tail _ hx)]
    funext y
    rw [List.reverse_cons, lookup_append']
    by_cases hy : y = n
    · subst hy
      simp [List.lookup]
    · have : ([(n, v)] : List (Str × Value)).lookup y = none := by
        rw [List.lookup_cons]
        have hx : (y == n) = false := by simpa using hy
        rw [hx]; rfl
      rw [this, if_neg hy, Option.or_none]
theorem bindL_mp (k : Str → Option NameKind) (ps qs : List Str) (vs : List Value) (nod : (ps ++ qs).Nodup) (hl : ps.length = vs.length) (h : ∀ x ∈ ps, k x = some .local) :
    bindL k (ps.zip vs) (fun _ => none) = mp (ps ++ qs) (vs.map some ++ List.replicate qs.length none) := by
  rw [bindL_all k _ _ fun x hx => h x.1 (zip_fst_sub ps vs x.1 (List.mem_map_of_mem (f := (·.1)) hx))]
  funext y
  rw [Option.or_none]
  exact mp_start ps vs qs nod hl y
section
variable {Γ : Gd} {X : Cx} {d d' : Nat} {sc : Scope} {ns : List Str} {cl clc : List (Str × Addr)} {l l' l₁ : Loc} {n m n' n₁ n₂ : Led} {x y : Str} {pos p₁ p₂ tpos apos px spos : Pos} {a b : SV} {as bs ys : Loc} {e e' o i e₁ e₂ elt iter : Expr} {es ifs : List Expr} {c : Addr} {rest body orelse : List Stmt} {T : Value → Loc → Led → Prop} {j k : Int} {Q : Flow → Loc → Led → Prop} {scope : Scope}

theorem EvS.mul (ha : EvS X l n e (.i j)) (hb : EvS X l n e' (.i k)) (hx : j.natAbs < 2 ^ 64) : EvS X l n (.BinOp e .Mult e' pos) (.i (j * k)) := EvS.mulL hx ha hb
theorem EvS.dv (ha : EvS X l n e (.i j)) (hb : EvS X l n e' (.i k)) (hy : 0 < k) (hs : k.natAbs < 2 ^ 9000) : EvS X l n (.BinOp e .FloorDiv e' pos) (.i (j / k)) := EvS.div hy hs ha hb
theorem EvS.md (ha : EvS X l n e (.i j)) (hb : EvS X l n e' (.i k)) (hy : 0 < k) : EvS X l n (.BinOp e .Mod e' pos) (.i (j % k)) := EvS.mod hy ha hb
theorem WP.wkL {α : Type} {t : Sem α} {R : α → Loc → Led → Prop} (h : WP X t l' n R) (k : ∀ vs, fits l vs → fits l' vs) : WP X t l n R :=
  .mk fun r s R E G q => h.run r s R E (let ⟨⟨vs, f, F⟩, N, D⟩ := G; ⟨⟨vs, k vs f, F⟩, N, D⟩) q
theorem St.nilLe (h : ∃ n₂, Led.le n₂ n ∧ Q .next l n₂) : St X l n [] Q :=
  let ⟨n₂, h1, h2⟩ := h
  (St.nil (n := n₂) h2).pre h1
theorem St.iteW {S : Bool → Loc → Led → Prop} (ht : WP X (isTrue e X.env (eval e X.env)) l n S) (h : ∀ b l' n', S b l' n' → St X l' n' (if b then body else orelse) (Then X rest Q)) : St X l n (.If e body orelse pos :: rest) Q := by
  refine St.cons (.mk fun r s R E G q => wpAny_If (ht.run r s _ E G ?_))
  intro c l₁ n₁ h₁ tk₁ hS G₁
  have := h c l₁ n₁ hS
  cases c with
  | true => exact this.run r _ _ E G₁ fun a l' n' h' tk' x G' => q a l' n' h' tk' x G'
  | false => exact this.run r _ _ E G₁ fun a l' n' h' tk' x G' => q a l' n' h' tk' x G'
theorem WP.isCmp {op : CmpOp} {S : Bool → Loc → Led → Prop} (h1 : Ev X l n e T)
    (h2 : ∀ v l₁ n₁, T v l₁ n₁ → ∃ T', Ev X l₁ n₁ e' T' ∧ ∀ u l₂ n₂, T' u l₂ n₂ → WP X (compareOp op v u) l₂ n₂ (fun w l₃ n₃ => ∃ b, w = .bool b ∧ S b l₃ n₃))
    (hm : behindInMarks op e' = false := by with_unfolding_all rfl) : WP X (isTrue (.Compare e [op] [e'] pos) X.env (eval (.Compare e [op] [e'] pos) X.env)) l n S := .mk fun r s R E G q => by
  refine wpAny_isTrue_Compare1 (h1.run r s _ E G ?_) hm
  intro v l₁ n₁ g₁ tk₁ hv G₁
  obtain ⟨T', h3, h4⟩ := h2 v l₁ n₁ hv
  refine h3.run r _ _ E G₁ ?_
  intro u l₂ n₂ g₂ tk₂ hu G₂
  refine (h4 u l₂ n₂ hu).run r _ _ E G₂ ?_
  rintro w l₃ n₃ g₃ tk₃ ⟨b, rfl, hS⟩ G₃
  exact wpAny_truthy_bool (q _ _ _ g₃ tk₃ hS G₃)
theorem EvS.itemN {k : Nat} (hv : EvN X l n o (LS as)) (hi : ∀ c, EvS X l ((c, LS as) :: n) i (.i k)) (hk : k < 2 ^ 62) (ha : as[k]? = some a)
    (hs : ∀ c t, subscripted i false (.ref c) (.int k t) = operate [.ref c, .int k t] (PySem.getItem (.ref c) (.int k t)) := by intro _ _; rfl) : EvS X l n (.Subscript o i pos) a := .mk fun r s R E G q => by
  refine Subscript_ (hv.run r s _ E G ?_)
  rintro v l₁ n₁ h₁ tk₁ ⟨c, rfl, rfl, rfl⟩ G₁
  refine (hi c).run r _ _ E G₁ ?_
  rintro v l₂ n₂ h₂ tk₂ ⟨⟨t, hv'⟩, rfl, rfl⟩ G₂
  cases hv'
  have hh : Has X ((c, LS as) :: n) c as := Has.mem (.head _)
  obtain ⟨vs, hL, f⟩ := hh l₂ r _ G₂
  refine tail_any (Heap.IsList.typeIs (s := { s with heap := h₂, toks := tk₂ }) hL) slot_list_getitem.lookup ?_ (hs c t)
  refine (WP.getItem hh hk ha).run r _ _ E G₂ ?_
  rintro v l₃ n₃ h₃ tk₃ ⟨hv9, rfl, rfl⟩ G₃
  exact q _ _ _ h₃ tk₃ ⟨hv9, rfl, rfl⟩ G₃.drop
/-- a def of the text's that only reads its footprint -/
theorem EvS.fnP {f : Addr} (hX : Ok Γ X d sc ns cl) (hf : EvS X l n (.Name x p₁) (.v (.ref f))) (hk : keepIn Γ.K (.ref f) = true) (ha : EvA X l n (e :: es) as)
    (hd : d' ≤ d) (hF : Fn Γ d' (.ref f) as n' (fun v n₁ => a.is (some v) ∧ n₁ = n')) (hp : List.Perm (n' ++ m) n) (he : starEach (e :: es) X.env = (false, eval e X.env) :: starEach es X.env := by rfl) (hpl : (starEach es X.env).any (·.1) = false := by rfl) :
    EvS X l n (.Call (.Name x p₁) (e :: es) [] pos) a :=
  WP.weaken (Ev.fn hX hf hk ha hd hF hp he hpl) fun v l₁ n₁ ⟨h1, n₂, h2, h3, h4⟩ => ⟨n, by subst h4; rw [h2]; exact Led.le_of_perm hp.symm, h3, h1, rfl⟩

/-- e[::-1], e turning the ledger -/
theorem Ev.revG {S : Led → Prop} {q : Nat} {kp up sp : Pos} (he : Ev X l n e T) (hk : ∀ v l₁ n₁, T v l₁ n₁ → ∃ c, v = .ref c ∧ l₁ = l ∧ Has X n₁ c as ∧ S n₁) (hz : as.length ≤ 2 ^ 24)
    (hs : ∀ o i : Value, ∃ ops, subscripted (.Slice none none (some (.UnaryOp .USub (.Constant (.int 1) q kp) up)) sp) false o i = operate ops (PySem.getItem o i) := by intro _ _; exact ⟨_, rfl⟩) :
    Ev X l n (.Subscript e (.Slice none none (some (.UnaryOp .USub (.Constant (.int 1) q kp) up)) sp) pos) (fun v l' n' => ∃ a n₁, v = .ref a ∧ l' = l ∧ S n₁ ∧ n' = (a, LS as.reverse) :: n₁) := .mk fun r s R E G qq => by
  refine Subscript_ (he.run r s _ E G ?_)
  intro v l₁ n₁ g₁ tk₁ hv G₁
  obtain ⟨c, rfl, rfl, hh, hS⟩ := hk v l₁ n₁ hv
  refine wpAny_Slice ((PartS.none (X := X) (l := l₁) (n := n₁)).run.run r _ _ E G₁ ?_)
  rintro u₁ l₂ n₂ g₂ tk₂ ⟨p₁, rfl, rfl⟩ G₂
  refine (PartS.none (X := X) (l := l₂) (n := n₂)).run.run r _ _ E G₂ ?_
  rintro u₂ l₃ n₃ g₃ tk₃ ⟨p₂, rfl, rfl⟩ G₃
  refine (PartS.some (X := X) (l := l₃) (n := n₃) (EvS.neg EvS.int)).run.run r _ _ E G₃ ?_
  rintro u₃ l₄ n₄ g₄ tk₄ ⟨p₃, rfl, rfl⟩ G₄
  obtain ⟨vs, hL, f⟩ := hh _ r _ G₄
  obtain ⟨ops, hs'⟩ := hs (.ref c) (.ref g₄.objs.size)
  refine tail_any (s := { s with heap := g₄.push { cls := .type "slice", data := .fields #[u₁, u₂, u₃] }, toks := tk₄ }) (Heap.IsList.typeIs (s := { s with heap := g₄.push { cls := .type "slice", data := .fields #[u₁, u₂, u₃] } }) (hL.push _)) slot_list_getitem.lookup ?_ hs'
  refine wpAny_getItem_list_slice (hL.push _) (Heap.IsSliceOf.new ..) p₁ p₂ p₃ (by simp) ?_ (by rw [fits_size f]; exact hz)
  have Gp : Good X l₄ (n₄ ++ r) (g₄.push { cls := .type "slice", data := .fields #[u₁, u₂, u₃] }) := G₄.keeps fun b o e => Heap.get?_push_of_some _ e
  have Gq := Good.push (o := { cls := .type "list", data := .seq (slicePick vs.toArray none none (some (-1))) }) (P := LS as.reverse) Gp rfl ⟨(slicePick vs.toArray none none (some (-1))).toList, 0, by simp, by rw [pick_rev, List.map_reverse]; exact fits_rev f⟩
  exact qq _ _ _ _ tk₄ ⟨_, n₄, rfl, rfl, hS, rfl⟩ Gq

/-! comprehensions, all at hand only once the iterable is -/
structure CompIs (Γ : Gd) (X : Cx) (d : Nat) (sc : Scope) (clc : List (Str × Addr)) (scope : Scope) (x : Str) (elt : Expr) (ifs : List Expr) (v : Value) (l l₁ : Loc) (n₁ n₂ : Led) (ys : Loc) where
  ok : ∃ (C : Cx → Led → Prop) (xs : Loc) (It : Nat → Obj → Prop) (yf : Nat → Loc), Iter C xs It ∧ WP X (pyIter v) l₁ n₁ (fun v l' n' => ∃ i, v = .ref i ∧ l' = l ∧ n' = (i, It 0) :: n₂) ∧
    (∀ X' : Cx, (∀ b o, X.g.get? b = some o → X'.g.get? b = some o) → C X' n₂) ∧ (∀ k, (yf k).length ≤ 2 ^ 24) ∧ yf 0 = [] ∧
    (∀ X' : Cx, (∀ b o, X.g.get? b = some o → X'.g.get? b = some o) → Ok Γ X' d (relabelS scope sc) [x] clc → ∀ k a, xs[k]? = some a → ∃ b, TestsAre X' [a] n₂ ifs b ∧
      (b = true → ∃ y, EvS X' [a] n₂ elt y ∧ yf (k + 1) = yf k ++ [y]) ∧ (b = false → yf (k + 1) = yf k)) ∧ yf xs.length = ys
theorem CompIs.ints {v : Value} {C : Cx → Led → Prop} {fs : List Int} {It : Nat → Obj → Prop} (p : Int → Bool) (g : Int → SV) (I : Iter C (fs.map SV.i) It) (hi : WP X (pyIter v) l₁ n₁ (fun v l' n' => ∃ i, v = .ref i ∧ l' = l ∧ n' = (i, It 0) :: n₂))
    (hC : ∀ X' : Cx, (∀ b o, X.g.get? b = some o → X'.g.get? b = some o) → C X' n₂) (hz : fs.length ≤ 2 ^ 24)
    (hb : ∀ X' : Cx, (∀ b o, X.g.get? b = some o → X'.g.get? b = some o) → Ok Γ X' d (relabelS scope sc) [x] clc → ∀ a, a ∈ fs → TestsAre X' [.i a] n₂ ifs (p a) ∧ (p a = true → EvS X' [.i a] n₂ elt (g a))) :
    CompIs Γ X d sc clc scope x elt ifs v l l₁ n₁ n₂ ((fs.filter p).map g) := ⟨C, fs.map SV.i, It, fun k => ((fs.take k).filter p).map g, I, hi, hC, fun k => by
      rw [List.length_map]
      exact Nat.le_trans (List.length_filter_le _ _) (by rw [List.length_take]; (first | decide | lia | omega)), rfl, fun X' hg hX k a ha => by
      rw [List.getElem?_map] at ha
      obtain ⟨y, hy, rfl⟩ := Option.map_eq_some_iff.mp ha
      obtain ⟨h1, h2⟩ := hb X' hg hX y (List.mem_of_getElem? hy)
      refine ⟨p y, h1, fun hp => ⟨g y, h2 hp, ?_⟩, fun hp => ?_⟩
      · dsimp only
        rw [List.take_add_one, hy, List.filter_append, List.map_append]
        simp [hp]
      · dsimp only
        rw [List.take_add_one, hy, List.filter_append, List.map_append]
        simp [hp], by dsimp only; rw [List.length_map, List.take_length]⟩

theorem CompIs.mapV {v : Value} {C : Cx → Led → Prop} {fs : List Int} {It : Nat → Obj → Prop} (g : Int → SV) (I : Iter C (fs.map SV.i) It) (hi : WP X (pyIter v) l₁ n₁ (fun v l' n' => ∃ i, v = .ref i ∧ l' = l ∧ n' = (i, It 0) :: n₂))
    (hC : ∀ X' : Cx, (∀ b o, X.g.get? b = some o → X'.g.get? b = some o) → C X' n₂) (hz : fs.length ≤ 2 ^ 24)
    (hb : ∀ X' : Cx, (∀ b o, X.g.get? b = some o → X'.g.get? b = some o) → Ok Γ X' d (relabelS scope sc) [x] clc → ∀ a, a ∈ fs → EvS X' [.i a] n₂ elt (g a)) :
    CompIs Γ X d sc clc scope x elt [] v l l₁ n₁ n₂ (fs.map g) := by
  have := CompIs.ints (Γ := Γ) (d := d) (sc := sc) (clc := clc) (scope := scope) (x := x) (ifs := []) (elt := elt) (fun _ => true) g I hi hC hz fun X' hg hX a ha => ⟨.inl ⟨rfl, rfl⟩, fun _ => hb X' hg hX a ha⟩
  rw [List.filter_eq_self.mpr (fun _ _ => rfl)] at this
  exact this
theorem CompIs.mapI {v : Value} {C : Cx → Led → Prop} {fs : List Int} {It : Nat → Obj → Prop} (g : Int → Int) (I : Iter C (fs.map SV.i) It) (hi : WP X (pyIter v) l₁ n₁ (fun v l' n' => ∃ i, v = .ref i ∧ l' = l ∧ n' = (i, It 0) :: n₂))
    (hC : ∀ X' : Cx, (∀ b o, X.g.get? b = some o → X'.g.get? b = some o) → C X' n₂) (hz : fs.length ≤ 2 ^ 24)
    (hb : ∀ X' : Cx, (∀ b o, X.g.get? b = some o → X'.g.get? b = some o) → Ok Γ X' d (relabelS scope sc) [x] clc → ∀ a, a ∈ fs → EvS X' [.i a] n₂ elt (.i (g a))) :
    CompIs Γ X d sc clc scope x elt [] v l l₁ n₁ n₂ ((fs.map g).map SV.i) := by
  rw [List.map_map]
  exact CompIs.mapV _ I hi hC hz hb
theorem Ev.compG {S : Led → Prop} (hX : Ok Γ X d sc ns cl) (hclos : closureFor scope X.env = pure clc)
    (hcell : (scope.names.all fun y => !(y.2 == .cell)) = true) (hk : scope.kind = .function) (hnames : (scope.names.all fun y => !(y.2 == .local) || scope.names.lookup y.1 == some .local) = true) (hx : scope.names.lookup x = some .local) (hd : (x == ("__debug__" : Str)) = false)
    (he : Ev X l n iter T) (hi : ∀ v l₁ n₁, T v l₁ n₁ → ∃ n₂, S n₂ ∧ CompIs Γ X d sc clc scope x elt ifs v l l₁ n₁ n₂ ys)
    (hs : ∀ x, foldedSetIterable iter X.env x = pure x := by intro _; rfl) :
    WP X (eval (.ListComp elt [⟨.Name x px, iter, ifs, 0⟩] scope pos) X.env) l n (fun v l' n' => ∃ c n₂, v = .ref c ∧ l' = l ∧ S n₂ ∧ n' = (c, LS ys) :: n₂) := .mk fun r s R E G q => by
  have hnames' : ∀ y ∈ scope.names, y.2 = .local → scope.names.lookup y.1 = some .local := fun y hy e => by
    have := List.all_eq_true.mp hnames y hy
    rw [e] at this
    simpa using this
  rw [eval_ListComp]
  refine wpAny_comprehension_free (use := none) rfl hs hclos hk hnames' (he.run r s _ E G ?_)
  intro v l₁ n₁ h₁ tk₁ hv G₁
  obtain ⟨n₂, hS, C, xs, It, yf, I, hit, hC, hz, h0, body, hys⟩ := hi v l₁ n₁ hv
  refine hit.run r _ _ E G₁ ?_
  rintro _ _ _ h₂ tk₂ ⟨i, rfl, rfl, rfl⟩ G₂
  refine comp_core (RR := fun acc C => compPost (model X.prog X.w) X.A E none R acc C) (ys := yf) I hX hcell hk hx hd hC hz h0 body G₂ ?_
  intro D Cc h₃ tk₃ G₃
  obtain ⟨o, ho, hdd⟩ := G₃.get (.head _)
  obtain ⟨m, hm⟩ := DictAny.ns ho hdd
  rw [hys] at G₃
  exact ⟨m, hm, fun h₄ hs₄ => q _ _ _ h₄ tk₃ ⟨D, n₂, rfl, rfl, hS, rfl⟩ (good_ext G₃ hs₄.extBut)⟩
theorem EvN.compG (hX : Ok Γ X d sc ns cl) (hclos : closureFor scope X.env = pure clc)
    (hcell : (scope.names.all fun y => !(y.2 == .cell)) = true) (hk : scope.kind = .function) (hnames : (scope.names.all fun y => !(y.2 == .local) || scope.names.lookup y.1 == some .local) = true) (hx : scope.names.lookup x = some .local) (hd : (x == ("__debug__" : Str)) = false)
    (he : Ev X l n iter T) (hi : ∀ v l₁ n₁, T v l₁ n₁ → ∃ n₂, n.le n₂ ∧ CompIs Γ X d sc clc scope x elt ifs v l l₁ n₁ n₂ ys)
    (hs : ∀ x, foldedSetIterable iter X.env x = pure x := by intro _; rfl) : EvN X l n (.ListComp elt [⟨.Name x px, iter, ifs, 0⟩] scope pos) (LS ys) :=
  WP.weaken (Ev.compG hX hclos hcell hk hnames hx hd he hi hs) fun v l' n' ⟨c, n₂, h1, h2, h3, h4⟩ => ⟨(c, LS ys) :: n, by rw [h4]; exact Led.le_cons _ h3, c, h1, h2, rfl⟩
theorem St.assignCompG {f : SV → Loc} (hX : Ok Γ X d sc ns cl) (hclos : closureFor scope X.env = pure clc)
    (hcell : (scope.names.all fun y => !(y.2 == .cell)) = true) (hk : scope.kind = .function) (hnames : (scope.names.all fun y => !(y.2 == .local) || scope.names.lookup y.1 == some .local) = true) (hx : scope.names.lookup x = some .local) (hd : (x == ("__debug__" : Str)) = false)
    (hsw : swapsWith (.ListComp elt [⟨.Name x px, iter, ifs, 0⟩] scope pos) (some (.Name y p₁)) spos.line X.env = pure true)
    (he : Ev X l n iter T) (P : Put ns l y f) (hi : ∀ v l₁ n₁, T v l₁ n₁ → ∃ n₂, CompIs Γ X d sc clc scope x elt ifs v l l₁ n₁ n₂ ys ∧ ∀ c, St X (f (.v (.ref c))) ((c, LS ys) :: n₂) rest Q)
    (hs : ∀ x, foldedSetIterable iter X.env x = pure x := by intro _; rfl) :
    St X l n (.Assign [.Name y p₁] (.ListComp elt [⟨.Name x px, iter, ifs, 0⟩] scope pos) spos :: rest) Q := by
  have hnames' : ∀ y ∈ scope.names, y.2 = .local → scope.names.lookup y.1 = some .local := fun y hy e => by
    have := List.all_eq_true.mp hnames y hy
    rw [e] at this
    simpa using this
  refine St.cons (.mk fun r s R E G q => ?_)
  rw [exec_Assign_Name_used _ _ _ _ hsw]
  refine wpAny_bind (wpAny_standAt (wpAny_bind ?_))
  show wpAny _ _ (do let _ ← comprehension (.ListComp elt [⟨.Name x px, iter, ifs, 0⟩] scope pos) scope X.env _ (newList []) false (eval iter X.env) (some (PySem.assign (.Name y p₁) X.env))) _ _ s
  refine wpAny_bind (wpAny_mono (wpAny_comprehension_free (use := some (PySem.assign (.Name y p₁) X.env)) (Q := fun _ s' => R .next s') rfl hs hclos hk hnames' (he.run r s _ E G ?_)) (fun _ s' hq => wpAny_pure (wpAny_pure hq)) fun _ _ e => e)
  intro v l₁ n₁ h₁ tk₁ hv G₁
  obtain ⟨n₂, ⟨C, xs, It, yf, I, hit, hC, hz, h0, body, hys⟩, kk⟩ := hi v l₁ n₁ hv
  refine hit.run r _ _ E G₁ ?_
  rintro _ _ _ h₂ tk₂ ⟨i, rfl, rfl, rfl⟩ G₂
  refine comp_core (RR := fun acc C => compPost (model X.prog X.w) X.A E (some (PySem.assign (.Name y p₁) X.env)) (fun _ s' => R .next s') acc C) (ys := yf) I hX hcell hk hx hd hC hz h0 body G₂ ?_
  intro D Cc h₃ tk₃ G₃
  rw [hys] at G₃
  show wpAny _ _ (PySem.assign (.Name y p₁) X.env (.ref D)) _ _ _
  refine wpAny_assign_Name ?_
  refine (WP.store (a := .v (.ref D)) hX P rfl).run _ _ _ E G₃ ?_
  rintro _ _ _ h₄ tk₄ ⟨rfl, rfl⟩ G₄
  obtain ⟨o, ho, hdd⟩ := G₄.get (.head _)
  obtain ⟨m, hm⟩ := DictAny.ns ho hdd
  exact ⟨m, hm, fun h₅ hs₅ => q _ _ _ h₅ tk₄ (kk D) (good_ext G₄ hs₅.extBut)⟩

theorem EvN.mono_ls (h : EvN X l n e (LS as)) (k : as = bs) : EvN X l n e (LS bs) := k ▸ h
/-- a for, all at hand only once the iterable is -/
theorem St.forG (hX : Ok Γ X d sc ns cl) (he : Ev X l n e T)
    (hk : ∀ v l₁ n₁, T v l₁ n₁ → ∃ (C : Cx → Led → Prop) (xs : Loc) (It : Nat → Obj → Prop) (J : Nat → Loc → Led → Prop), Iter C xs It ∧ WP X (pyIter v) l₁ n₁ (fun v l' n' => ∃ i n₂, v = .ref i ∧ n' = (i, It 0) :: n₂ ∧ J 0 l' n₂) ∧ (∀ k l n, J k l n → C X n) ∧
      (∀ k a l n, xs[k]? = some a → J k l n → ∃ g, Put ns l x g ∧ St X (g a) n body (fun f l' n' => match f with
        | .next | .cont => J (k + 1) l' n'
        | .brk => St X l' n' rest Q
        | .ret v => Q (.ret v) l' n')) ∧
      (∀ l n, J xs.length l n → St X l n orelse (Then X rest Q)))
    (hs : ∀ x, foldedSetIterable e X.env x = pure x := by intro _; rfl) : St X l n (.For (.Name x p₁) e body orelse pos :: rest) Q := by
  refine St.cons (.mk fun r s R E G q => wpAny_For (he.run r s _ E G ?_) hs)
  intro v l₁ n₁ h₁ tk₁ hv G₁
  obtain ⟨C, xs, It, J, I, hi, hJ, step, fin⟩ := hk v l₁ n₁ hv
  refine hi.run r _ _ E G₁ ?_
  rintro _ l₂ _ h₂ tk₂ ⟨it, n₂, rfl, rfl, hJ0⟩ G₂
  refine codeAny_forLoop (fun k s' => ∃ j l n h tk, j ≤ xs.length ∧ k = xs.length - j ∧ J j l n ∧ Good X l ((it, It j) :: n ++ r) h ∧ s' = { s with heap := h, toks := tk }) ?_ _ ⟨0, l₂, n₂, h₂, tk₂, Nat.zero_le _, rfl, hJ0, G₂, rfl⟩
  rintro k s' ⟨j, l, n, h, tk, hjl, rfl, hj, G, rfl⟩
  by_cases hlt : j < xs.length
  · refine (I.next X it j l n _ hX.hh (hJ _ _ _ hj) (List.getElem?_eq_getElem hlt)).run r _ _ _ G ?_
    rintro _ l₃ _ h₃ tk₃ ⟨v, rfl, hv, rfl, rfl⟩ G₃
    obtain ⟨g, P, hb⟩ := step j _ l₃ n (List.getElem?_eq_getElem hlt) hj
    refine wpAny_assign_Name ?_
    refine (WP.store (n := (it, It (j + 1)) :: n) hX P hv).run r _ _ _ G₃ ?_
    rintro _ l₄ _ h₄ tk₄ ⟨rfl, rfl⟩ G₄
    refine hb.run ((it, It (j + 1)) :: r) _ _ _ (G₄.le (Led.le_of_perm List.perm_middle)) ?_
    intro f l₅ n₅ h₅ tk₅ hf G₅
    have G₅' : Good X l₅ ((it, It (j + 1)) :: n₅ ++ r) h₅ := G₅.le (Led.le_of_perm List.perm_middle.symm)
    cases f with
    | next => exact ⟨xs.length - (j + 1), by (first | decide | lia | omega), j + 1, l₅, n₅, h₅, tk₅, hlt, rfl, hf, G₅', rfl⟩
    | cont => exact ⟨xs.length - (j + 1), by (first | decide | lia | omega), j + 1, l₅, n₅, h₅, tk₅, hlt, rfl, hf, G₅', rfl⟩
    | brk => exact q _ l₅ n₅ h₅ tk₅ hf G₅'.drop
    | ret v => exact q _ l₅ n₅ h₅ tk₅ hf G₅'.drop
  · have e : j = xs.length := by (first | decide | lia | omega)
    subst e
    refine (I.done X it l n hX.hh (hJ _ _ _ hj)).run r _ _ _ G ?_
    rintro _ l₃ _ h₃ tk₃ ⟨rfl, rfl, rfl⟩ G₃
    exact (fin _ _ hj).run r _ _ _ G₃ fun f l₄ n₄ h₄ tk₄ hf G₄ => q _ l₄ n₄ h₄ tk₄ hf G₄
/-- a for over a new list of ints; the list lies at the ledger's head -/
theorem St.forN {xs : List Int} {J : Nat → Loc → Led → Prop} (hX : Ok Γ X d sc ns cl) (he : EvN X l n e (LI xs)) (h0 : J 0 l n)
    (step : ∀ Lc k a l n, xs[k]? = some a → J k l n → ∃ g, Put ns l x g ∧ St X (g (.i a)) ((Lc, LI xs) :: n) body (fun f l' n' => match f with
        | .next | .cont => ∃ n₁, n' = (Lc, LI xs) :: n₁ ∧ J (k + 1) l' n₁
        | .brk => St X l' n' rest Q
        | .ret v => Q (.ret v) l' n'))
    (fin : ∀ l n, J xs.length l n → St X l n orelse (Then X rest Q))
    (hs : ∀ x, foldedSetIterable e X.env x = pure x := by intro _; rfl) : St X l n (.For (.Name x p₁) e body orelse pos :: rest) Q :=
  St.forG hX he (fun v l₁ n₁ ⟨Lc, h1, h2, h3⟩ => by
    subst h1; subst h2; subst h3
    refine ⟨_, xs.map SV.i, ItL Lc, fun k l' n' => ∃ n₁, n' = (Lc, LI xs) :: n₁ ∧ J k l' n₁, Iter.list Lc (xs.map SV.i), ?_, ?_, ?_, ?_⟩
    · refine (WP.iterList (as := xs.map SV.i) (Has.mem (.head _))).mono ?_
      rintro v l' n' ⟨i, rfl, rfl, rfl⟩
      exact ⟨i, _, rfl, rfl, _, rfl, h0⟩
    · rintro k l n ⟨n₁, rfl, _⟩
      exact Has.mem (.head _)
    · rintro k a l n ha ⟨n₁, rfl, hJ⟩
      rw [List.getElem?_map] at ha
      obtain ⟨y, hy, rfl⟩ := Option.map_eq_some_iff.mp ha
      exact step Lc k y l n₁ hy hJ
    · rintro l n ⟨n₁, rfl, hJ⟩
      rw [List.length_map] at hJ
      exact (fin l n₁ hJ).pre (Led.le_skip _ (Led.le_refl _))) hs

/-- f(iter(e)) for a def of the text's that eats the iterator -/
theorem EvS.fnIter {f : Addr} {os : Loc} {pos₂ : Pos} (hX : Ok Γ X d sc ns cl) (hf : EvS X l n (.Name x p₁) (.v (.ref f))) (hk : keepIn Γ.K (.ref f) = true) (hit : EvS X l n (.Name y p₂) (.v (.builtin "iter"))) (he : EvN X l n e (LS os))
    (hd : d' ≤ d) (hF : ∀ i c, ∃ R, Fn Γ d' (.ref f) [.v (.ref i)] [(i, ItL c 0), (c, LS os)] R ∧ ∀ v n', R v n' → a.is (some v))
    (h1 : starEach [.Call (.Name y p₂) [e] [] pos₂] X.env = [(false, eval (.Call (.Name y p₂) [e] [] pos₂) X.env)] := by rfl) (h2 : starEach [e] X.env = [(false, eval e X.env)] := by rfl) :
    EvS X l n (.Call (.Name x p₁) [.Call (.Name y p₂) [e] [] pos₂] [] pos) a :=
  WP.weaken (Ev.callK1 (T := fun v l' n' => ∃ i c, v = .ref i ∧ l' = l ∧ n' = (i, ItL c 0) :: (c, LS os) :: n) (Q := fun v l' n' => l' = l ∧ a.is (some v) ∧ n.le n') hX hf hk
    (Ev1.of (Ev.blt1 hit (Ev1.of he h2) (fun v l₁ n₁ ⟨c, e1, e2, e3⟩ => by
      subst e1; subst e2; subst e3
      exact (WP.iterCall (Has.mem (.head _))).mono fun v l' n' ⟨i, h1, h2, h3⟩ => ⟨i, c, h1, h2, h3⟩) h2) h1) (fun v l₁ n₁ ⟨i, c, e1, e2, e3⟩ => by
      subst e1; subst e2; subst e3
      obtain ⟨R, hF, hR⟩ := hF i c
      refine (Fn.wp (m := n) hX hd hF (vs := [.ref i]) ⟨rfl, trivial⟩ (List.Perm.refl _)).mono ?_
      rintro v l' n' ⟨h1, n₁, rfl, h2⟩
      exact ⟨h1, hR v _ h2, ⟨n₁, List.perm_append_comm⟩⟩) h1) fun v l₁ n₁ ⟨h1, h2, h3⟩ => ⟨n, h3, h2, h1, rfl⟩

/-- from a contract's frame word to a St -/
theorem wp_of_st {prog : Program} {w : World} {A : Around} {s : Shared} {R : Flow → Shared → Prop} {E : Value → Shared → Prop} {env : Env} {b : List Stmt} (X : Cx) (l : Loc) (n : Led) (Q : Flow → Loc → Led → Prop) (h1 : X.prog = prog) (h2 : X.w = w) (h3 : X.A = A) (h4 : X.env = env)
    (G : Good X l n s.heap) (h : St X l n b Q) (hq : ∀ f l' n' h' tk', Q f l' n' → Good X l' n' h' → R f { s with heap := h', toks := tk' }) : wpAny (model prog w) A (execs b env) R E s := by
  subst h1 h2 h3 h4
  refine h.run [] s R E (by rw [List.append_nil]; exact G) fun a l' n' h' tk' x G' => ?_
  rw [List.append_nil] at G'
  exact hq a l' n' h' tk' x G'
end
end Mine
namespace Mine
open PySem PySem.W PyProof.Rows
set_option maxRecDepth 100000
set_option maxHeartbeats 8000000
open_top hd for PySem.Challenge.rw_uq0005_01
end Mine
namespace Mine
open PySem PySem.W PyProof.Rows PySem.Calls PySem.Spec
noncomputable abbrev KK (w : World) : Frag := Mine.hd.heap_39 w.params
noncomputable abbrev GG (w : World) : Gd := ⟨KK w, PySem.Challenge.rw_uq0005_01.row.prog, w⟩
abbrev aAP : Addr := 21
abbrev aD2 : Addr := 28
abbrev aID : Addr := 42
abbrev tID : Addr := 37
abbrev aDI : Addr := 49
abbrev tDI : Addr := 44
abbrev aDP : Addr := 56
abbrev aDM : Addr := 63
abbrev aFN : Addr := 64
abbrev aPF : Addr := 71
abbrev aPV : Addr := 78
abbrev pID : Pos := ⟨41, 4, 50, 28⟩
abbrev pDI : Pos := ⟨56, 4, 61, 55⟩
end Mine
namespace Mine
open PySem PySem.W PyProof.Rows PySem.Calls PySem.Spec
set_option linter.unusedVariables false
set_option maxRecDepth 100000
set_option maxHeartbeats 4000000
set_option pp.deepTerms.threshold 8
local macro_rules | `(tactic| walk_at "ev") => `(tactic| first
  | ((with_reducible show EvS _ _ _ (Expr.Constant (Const.int _) _ _) _); exact EvS.int)
  | ((with_reducible show EvS _ _ _ (Expr.Name _ _) _); apply EvS.loc; assumption; (with_reducible (repeat (first | exact Look.here | apply Look.there))); exact rfl)
  | ((with_reducible show EvS _ _ _ (Expr.BinOp _ _ _ _) _); (first | refine' EvS.add ?ha ?hb | refine' EvS.sub ?ha ?hb | refine' EvS.band ?ha ?hb | refine' EvS.bor ?ha ?hb | refine' EvS.bxor ?ha ?hb | refine' EvS.mul ?ha ?hb ?hx | refine' EvS.md ?ha ?hb ?hx | refine' EvS.dv ?ha ?hb ?hx ?hy); (case ha => walk_at "ev"); (case hb => walk_at "ev"); (try case hx => (first | assumption | omega | decide)); (try case hy => (first | assumption | omega | decide)))
  | ((with_reducible show EvS _ _ _ (Expr.UnaryOp _ _ _) _); (first | refine' EvS.neg ?ha | refine' EvS.inv ?ha); (case ha => walk_at "ev")))
theorem ipow_le {a b : Nat} (h : a ≤ b) : (2 : Int) ^ a ≤ 2 ^ b := by
  have := Nat.pow_le_pow_right (n := 2) (by decide) h
  have e : ∀ k : Nat, (2 : Int) ^ k = ((2 ^ k : Nat) : Int) := fun k => by simp
  rw [e, e]; exact Int.ofNat_le.mpr this
theorem natAbs_lt {x : Int} {k : Nat} (h0 : 0 ≤ x) (h : x < 2 ^ k) : x.natAbs < 2 ^ k := by
  have e : (2 : Int) ^ k = ((2 ^ k : Nat) : Int) := by simp
  rw [e] at h
  (first | decide | lia | omega)
/-- the value of octets, six bits each -/
def vint (os : List Int) : Int := os.foldl (fun v b => v * 64 + b % 64) 0
theorem vint_snoc (os : List Int) (b : Int) : vint (os ++ [b]) = vint os * 64 + b % 64 := by simp [vint]
theorem vint_from : ∀ (os : List Int) (v : Int), 0 ≤ v → 0 ≤ os.foldl (fun v b => v * 64 + b % 64) v ∧ os.foldl (fun v b => v * 64 + b % 64) v < (v + 1) * 2 ^ (6 * os.length)
  | [], v, h => ⟨h, by simp; (first | decide | lia | omega)⟩
  | b :: os, v, h => by
    have h1 := Int.emod_nonneg b (show (64 : Int) ≠ 0 by decide)
    have h2 := Int.emod_lt_of_pos b (show (0 : Int) < 64 by decide)
    obtain ⟨h3, h4⟩ := vint_from os (v * 64 + b % 64) (by (first | decide | lia | omega))
    refine ⟨h3, Int.lt_of_lt_of_le h4 ?_⟩
    rw [List.length_cons, Nat.mul_add, Int.pow_add, ← Int.mul_assoc]
    have e : (2 : Int) ^ (6 * 1) = 64 := by decide
    rw [e, Int.mul_right_comm]
    exact Int.mul_le_mul_of_nonneg_right (by (first | decide | lia | omega)) (Int.le_of_lt (Int.pow_pos (by decide)))
theorem vint_bounds (os : List Int) : 0 ≤ vint os ∧ vint os < 2 ^ (6 * os.length) := by
  have := vint_from os 0 (Int.le_refl _)
  simpa [vint] using this
theorem f_varint {w : World} {i c : Addr} (os : List Int) (hne : os ≠ []) (h0 : ∀ b ∈ os, 0 ≤ b) (hb : ∀ j b, os[j]? = some b → (b / 64 % 2 = 1 ↔ j + 1 < os.length)) (hz : os.length ≤ 1000) :
    Fn (GG w) 1 (.ref aPV) [.v (.ref i)] [(i, ItL c 0), (c, LI os)] (fun v n' => (SV.i (vint os)).is (some v) ∧ n' = [(i, ItL c os.length), (c, LI os)]) := by
  refine Fn.plain ["iterator"] ["b", "val"] ["iterator", "b", "val"] rfl [.v (.ref i), .any, .any] rfl (fun h hK => hK _ _ rfl) rfl (by kernel_rfl) rfl rfl ?_ (by decide) (by kernel_rfl) (by kernel_rfl) rfl rfl rfl fun X hX => ?_
  · exact on1 fun a => rfl
  have hh : Has X [(c, LI os)] c (os.map SV.i) := Has.mem (.head _)
  have hl0 : 0 < os.length := List.length_pos_iff.mpr hne
  have get : ∀ k (hk : k < os.length), (os.map SV.i)[k]? = some (.i os[k]) := fun k hk => by rw [List.getElem?_map, List.getElem?_eq_getElem hk]; rfl
  have pos : ∀ k (hk : k < os.length), 0 ≤ os[k] := fun k hk => h0 _ (List.getElem_mem hk)
  refine St.assign hX (Ev.next (by (first | ((with_reducible show EvS _ _ _ _ (SV.v (Value.ref _))); exact EvS.glob (by assumption) (by kernel_rfl) (by kernel_rfl)) | exact EvS.blt (by assumption) (by kernel_rfl) (by kernel_rfl) (by kernel_rfl))) (by walk_at "ev") hh (get 0 hl0)) ?_
  rintro v l₁ n₁ ⟨hv, rfl, rfl⟩
  refine ⟨_, _, hv, by (with_reducible (repeat (first | exact Put.here | apply Put.there))), ?_⟩
  refine St.assignS hX (a := .i (vint (os.take 1))) (EvS.as (by walk_at "ev") ?_) (by (with_reducible (repeat (first | exact Put.here | apply Put.there)))) ?_
  · rw [bitAnd_m6, List.take_one, List.head?_eq_getElem?, List.getElem?_eq_getElem hl0]; simp [vint]
  refine St.while_ (α := Nat) (fun k l n => 0 < k ∧ ∃ hk : k - 1 < os.length, l = [.v (.ref i), .i os[k - 1], .i (vint (os.take k))] ∧ n = [(i, ItL c k), (c, LI os)]) (fun k => os.length - k) 1 ⟨by decide, hl0, rfl, rfl⟩ ?_
  rintro k l n ⟨hk0, hk, rfl, rfl⟩
  refine ⟨_, EvT.int (EvS.as (by walk_at "ev") (bitAnd_64 (pos _ hk))), fun h => ?_, fun h => ?_⟩
  · have hlt : k < os.length := by
      have : os[k-1] / 64 % 2 = 1 := by
        have h' : os[k-1] / 64 % 2 * 64 ≠ 0 := by simpa using h
        (first | decide | lia | omega)
      have := (hb _ _ (List.getElem?_eq_getElem hk)).mp this
      (first | decide | lia | omega)
    obtain ⟨b1, b2⟩ := vint_bounds (os.take k)
    refine St.augShl (v := 6) (j := 6 * os.length) hX (by (with_reducible (repeat (first | exact Look.here | apply Look.there)))) (by walk_at "ev") ?_ (by (first | decide | lia | omega)) (by (with_reducible (repeat (first | exact Put.here | apply Put.there)))) ?_
    · exact natAbs_lt b1 (Int.lt_of_lt_of_le b2 (ipow_le (by rw [List.length_take]; (first | decide | lia | omega))))
    refine St.assign hX (Ev.next (by (first | ((with_reducible show EvS _ _ _ _ (SV.v (Value.ref _))); exact EvS.glob (by assumption) (by kernel_rfl) (by kernel_rfl)) | exact EvS.blt (by assumption) (by kernel_rfl) (by kernel_rfl) (by kernel_rfl))) (by walk_at "ev") hh (get k hlt)) ?_
    rintro v l₁ n₁ ⟨hv, rfl, rfl⟩
    refine ⟨_, _, hv, by (with_reducible (repeat (first | exact Put.here | apply Put.there))), ?_⟩
    refine St.augOr hX (by (with_reducible (repeat (first | exact Look.here | apply Look.there)))) (EvS.as (by walk_at "ev") (bitAnd_m6 _)) (by (with_reducible (repeat (first | exact Put.here | apply Put.there)))) ?_
    refine St.nil ⟨k + 1, by (first | decide | lia | omega), by (first | decide | lia | omega), by simpa using hlt, ?_, rfl⟩
    have e : os.take (k + 1) = os.take k ++ [os[k]] := by rw [List.take_add_one, List.getElem?_eq_getElem hlt]; rfl
    rw [bitOr_split (y := os[k] % 64) b1 (Int.emod_nonneg _ (by decide)) 6 (Int.emod_lt_of_pos _ (by decide))]
    simp only [Nat.add_sub_cancel, e, vint_snoc]
    rfl
  · have hlt : ¬ k < os.length := by
      intro q
      have := (hb _ _ (List.getElem?_eq_getElem hk)).mpr (by (first | decide | lia | omega))
      rw [this] at h
      exact absurd h (by decide)
    have e : k = os.length := by (first | decide | lia | omega)
    subst e
    refine St.nilT ?_
    apply St.retS (by walk_at "ev")
    intro v hv
    rw [List.take_length] at hv
    exact ⟨_, Led.le_refl _, hv, rfl⟩
/-- digits to the base B, the least first; as many as the fuel allows -/
def idig (B : Int) : Nat → Int → List Int
  | 0, _ => []
  | f + 1, n => if n = 0 then [] else n % B :: idig B f (n / B)
theorem idig_zero (B : Int) (f : Nat) : idig B f 0 = [] := by cases f <;> simp [idig]
theorem idig_len (B : Int) : ∀ (f : Nat) (n : Int), (idig B f n).length ≤ f
  | 0, _ => Nat.le_refl _
  | f + 1, n => by
    unfold idig
    split
    · exact Nat.zero_le _
    · exact Nat.succ_le_succ (idig_len B f _)

theorem f_ap {w : World} (x : Int) (f : Nat) (hx : x.natAbs < 16 ^ f) (hf : f ≤ 10000) :
    Fn (GG w) 1 (.ref aAP) [.i x] [] (fun v n' => ∃ u, (SV.y u).is (some v) ∧ n' = [] ∧ KBw.bInts u = (idig 16 f (x.natAbs : Int)).reverse.map (65 + ·)) := by
  refine Fn.plain ["num"] ["val", "AP", "mod"] ["num", "val", "AP", "mod"] rfl [.i x, .any, .any, .any] rfl (fun h hK => hK _ _ rfl) rfl (by kernel_rfl) rfl rfl ?_ (by decide) (by kernel_rfl) (by kernel_rfl) rfl rfl rfl fun X hX => ?_
  · exact on1 fun a => rfl
  refine St.assignS hX EvS.bytes (by (with_reducible (repeat (first | exact Put.here | apply Put.there)))) ?_
  refine St.assignS hX EvS.bytes (by (with_reducible (repeat (first | exact Put.here | apply Put.there)))) ?_
  refine St.assignS hX (a := .i (x.natAbs : Int)) (EvS.as (EvS.intc (by (first | ((with_reducible show EvS _ _ _ _ (SV.v (Value.ref _))); exact EvS.glob (by assumption) (by kernel_rfl) (by kernel_rfl)) | exact EvS.blt (by assumption) (by kernel_rfl) (by kernel_rfl) (by kernel_rfl))) (EvS.abs (by (first | ((with_reducible show EvS _ _ _ _ (SV.v (Value.ref _))); exact EvS.glob (by assumption) (by kernel_rfl) (by kernel_rfl)) | exact EvS.blt (by assumption) (by kernel_rfl) (by kernel_rfl) (by kernel_rfl))) (by walk_at "ev"))) ?_) (by (with_reducible (repeat (first | exact Put.here | apply Put.there)))) ?_
  · split <;> (first | decide | lia | omega)
  refine St.while_ (α := Nat × Nat × Array UInt8) (fun a l n => a.2.1 < 16 ^ a.1 ∧ a.1 ≤ f ∧ a.2.2.size + a.1 ≤ f ∧ (idig 16 a.1 (a.2.1 : Int)).reverse.map (65 + ·) ++ KBw.bInts a.2.2 = (idig 16 f (x.natAbs : Int)).reverse.map (65 + ·) ∧ (∃ z, l = [.i (a.2.1 : Int), .y a.2.2, .y #[65, 66, 67, 68, 69, 70, 71, 72, 73, 74, 75, 76, 77, 78, 79, 80], z]) ∧ n = []) (fun a => a.1) (f, x.natAbs, #[]) ⟨hx, Nat.le_refl _, by simp, by simp [KBw.bInts], ⟨_, rfl⟩, rfl⟩ ?_
  rintro ⟨g, m, u⟩ l n ⟨h1, h2, h3, h4, ⟨z, rfl⟩, rfl⟩
  dsimp only at h1 h2 h3 h4 ⊢
  refine ⟨_, EvT.int (by walk_at "ev"), fun hb => ?_, fun hb => ?_⟩
  · have hm : m ≠ 0 := by
      intro q
      subst q
      exact absurd hb (by decide)
    match g, h1 with
    | 0, h1 => exact absurd h1 (by simp; (first | decide | lia | omega))
    | g + 1, h1 =>
      refine St.assign2N hX (EvN.divmod (j := (m : Int)) (k := 16) (by decide) (by decide) (by (first | ((with_reducible show EvS _ _ _ _ (SV.v (Value.ref _))); exact EvS.glob (by assumption) (by kernel_rfl) (by kernel_rfl)) | exact EvS.blt (by assumption) (by kernel_rfl) (by kernel_rfl) (by kernel_rfl))) (by walk_at "ev") (by walk_at "ev")) (by (with_reducible (repeat (first | exact Put.here | apply Put.there)))) (by (with_reducible (repeat (first | exact Put.here | apply Put.there)))) ?_
      refine St.assignS hX (EvS.addY (EvS.cutY (by (apply EvS.loc; assumption; (with_reducible (repeat (first | exact Look.here | apply Look.there))); exact rfl)) (PartS.some (by walk_at "ev")) (PartS.some (by walk_at "ev")) (by decide)) (by (apply EvS.loc; assumption; (with_reducible (repeat (first | exact Look.here | apply Look.there))); exact rfl)) ?_) (by (with_reducible (repeat (first | exact Put.here | apply Put.there)))) ?_
      · have := KBc.size_picked_le #[65, 66, 67, 68, 69, 70, 71, 72, 73, 74, 75, 76, 77, 78, 79, 80] (some ((m : Int) % 16)) (some ((m : Int) % 16 + 1))
        have e : (#[65, 66, 67, 68, 69, 70, 71, 72, 73, 74, 75, 76, 77, 78, 79, 80] : Array UInt8).size = 16 := rfl
        (first | decide | lia | omega)
      have hcut : KBw.bInts (KBy.picked #[65, 66, 67, 68, 69, 70, 71, 72, 73, 74, 75, 76, 77, 78, 79, 80] (some ((m : Int) % 16)) (some ((m : Int) % 16 + 1))) = [65 + (m : Int) % 16] := by
        have key : ∀ k : Fin 16, KBw.bInts (KBy.picked #[65, 66, 67, 68, 69, 70, 71, 72, 73, 74, 75, 76, 77, 78, 79, 80] (some ((k.val : Nat) : Int)) (some (((k.val : Nat) : Int) + 1))) = [65 + ((k.val : Nat) : Int)] := by decide +kernel
        have := key ⟨m % 16, Nat.mod_lt _ (by decide)⟩
        simpa using this
      have hsz : (KBy.picked #[65, 66, 67, 68, 69, 70, 71, 72, 73, 74, 75, 76, 77, 78, 79, 80] (some ((m : Int) % 16)) (some ((m : Int) % 16 + 1))).size = 1 := by
        rw [← KBw.ints_length, hcut]; rfl
      refine St.nil ⟨(g, m / 16, _), Nat.lt_succ_self _, ?_, by (first | decide | lia | omega), ?_, ?_, ⟨_, rfl⟩, rfl⟩
      · show m / 16 < 16 ^ g
        rw [Nat.pow_succ] at h1
        exact Nat.div_lt_of_lt_mul (by rw [Nat.mul_comm]; exact h1)
      · show (KBy.picked _ _ _ ++ u).size + g ≤ f
        rw [Array.size_append, hsz]; (first | decide | lia | omega)
      · show (idig 16 g ((m / 16 : Nat) : Int)).reverse.map _ ++ KBw.bInts (KBy.picked _ _ _ ++ u) = _
        rw [KBw.ints_app hcut rfl, ← h4]
        have e : idig 16 (g + 1) (m : Int) = (m : Int) % 16 :: idig 16 g ((m : Int) / 16) := by
          rw [idig, if_neg (by (first | decide | lia | omega))]
        rw [e]
        simp
  · have hm : m = 0 := by
      have : (m : Int) = 0 := by simpa using hb
      (first | decide | lia | omega)
    subst hm
    refine St.nilT ?_
    apply St.retS (by (apply EvS.loc; assumption; (with_reducible (repeat (first | exact Look.here | apply Look.there))); exact rfl))
    intro v hv
    refine ⟨_, Led.le_refl _, u, hv, rfl, ?_⟩
    rw [← h4]
    simp [idig_zero]

/-! _div2n1n -/
theorem f_d2 {w : World} (a b n : Int) (hb : 0 < b) (hs : b.natAbs < 2 ^ 9000) (hn : (Builtin.Int.intBits a : Int) - n ≤ 4000) :
    Fn (GG w) 1 (.ref aD2) [.i a, .i b, .i n] [] (fun v n' => ∃ c, v = .ref c ∧ n' = [(c, TS [.i (a / b), .i (a % b)])]) := by
  refine Fn.plain ["a", "b", "n"] [] ["a", "b", "n"] rfl [.i a, .i b, .i n] rfl (fun h hK => hK _ _ rfl) rfl (by kernel_rfl) rfl rfl ?_ (by decide) (by kernel_rfl) (by kernel_rfl) rfl rfl rfl fun X hX => ?_
  · exact on3 fun a b c => rfl
  refine St.ite (EvT.le (EvS.sub (EvS.bits (by walk_at "ev")) (by walk_at "ev")) (EvS.globN (i := 4000) (by assumption) (by kernel_rfl) (by kernel_rfl))) (fun _ => ?_) (fun h => ?_)
  · refine St.ret (EvN.divmod hb hs (by (first | ((with_reducible show EvS _ _ _ _ (SV.v (Value.ref _))); exact EvS.glob (by assumption) (by kernel_rfl) (by kernel_rfl)) | exact EvS.blt (by assumption) (by kernel_rfl) (by kernel_rfl) (by kernel_rfl))) (by walk_at "ev") (by walk_at "ev")) ?_
    rintro v l₁ n₁ ⟨c, rfl, rfl, rfl⟩
    exact ⟨_, Led.le_refl _, c, rfl, rfl⟩
  · exact absurd (of_decide_eq_false h) (by (first | decide | lia | omega))

/-! _int2digits -/
def digs (n : Nat) : Nat → Int → List Int
  | 0, _ => []
  | k + 1, x => x % 2 ^ n :: digs n k (x / 2 ^ n)
theorem digs_len (n : Nat) : ∀ (k : Nat) (x : Int), (digs n k x).length = k
  | 0, _ => rfl
  | k + 1, x => by rw [digs, List.length_cons, digs_len n k]
theorem digs_add (n : Nat) : ∀ (i j : Nat) (x : Int), 0 ≤ x → digs n (i + j) x = digs n i (x % 2 ^ (i * n)) ++ digs n j (x / 2 ^ (i * n))
  | 0, j, x, h => by simp [digs]
  | i + 1, j, x, h => by
    have hp : (0 : Int) < 2 ^ n := Int.pow_pos (by decide)
    rw [Nat.add_right_comm, digs, digs, digs_add n i j (x / 2 ^ n) (Int.ediv_nonneg h (Int.le_of_lt hp))]
    have e : (2 : Int) ^ ((i + 1) * n) = 2 ^ n * 2 ^ (i * n) := by rw [Nat.add_mul, Nat.one_mul, Nat.add_comm, Int.pow_add]
    have e1 : x % 2 ^ ((i + 1) * n) % 2 ^ n = x % 2 ^ n := Int.emod_emod_of_dvd _ ⟨_, e⟩
    have e2 : x / 2 ^ ((i + 1) * n) = x / 2 ^ n / 2 ^ (i * n) := by rw [e, Int.ediv_ediv_of_nonneg (Int.le_of_lt hp)]
    have e3 : x % 2 ^ ((i + 1) * n) / 2 ^ n = x / 2 ^ n % 2 ^ (i * n) := by
      have hq : (0 : Int) < 2 ^ (i * n) := Int.pow_pos (by decide)
      rw [e, Int.emod_def, Int.emod_def (x / 2 ^ n), ← Int.ediv_ediv_of_nonneg (Int.le_of_lt hp), Int.mul_assoc, Int.sub_eq_add_neg, ← Int.mul_neg, Int.add_mul_ediv_left _ _ (Int.ne_of_gt hp)]
      (first | decide | lia | omega)
    rw [e1, e2, e3]
    rfl

theorem splice {xs A B : List Int} {L m R : Nat} (hA : A.length = m - L) (h1 : L ≤ m) (h2 : m ≤ R) (h3 : R ≤ xs.length) :
    (xs.take L ++ A ++ xs.drop m).take m ++ B ++ (xs.take L ++ A ++ xs.drop m).drop R = xs.take L ++ (A ++ B) ++ xs.drop R := by
  have e : (xs.take L ++ A).length = m := by rw [List.length_append, List.length_take, hA]; (first | decide | lia | omega)
  have e1 : (xs.take L ++ A ++ xs.drop m).take m = xs.take L ++ A := by
    rw [List.take_append_of_le_length (by (first | decide | lia | omega)), List.take_of_length_le (by (first | decide | lia | omega))]
  have e2 : (xs.take L ++ A ++ xs.drop m).drop R = xs.drop R := by
    rw [List.drop_append, List.drop_of_length_le (by (first | decide | lia | omega)), List.nil_append, List.drop_drop, e]
    congr 1; (first | decide | lia | omega)
  rw [e1, e2]
  simp [List.append_assoc]
theorem set_splice {xs : List Int} {L : Nat} {y : Int} (h : L < xs.length) : xs.set L y = xs.take L ++ [y] ++ xs.drop (L + 1) := by
  rw [List.set_eq_take_append_cons_drop, if_pos h]
  simp

theorem f_id {w : World} (a : Int) (n k dd : Nat) (ha : 0 ≤ a) (hn : 0 < n) (hk : k = (Builtin.Int.intBits a + n - 1) / n) (hz : k ≤ 2 ^ dd) (hd : dd ≤ 20) (hs : n ≤ 2 ^ 20) (hb : k * n ≤ 2 ^ 24) (na : Led) (hT : TabIs pID "_int2digits.<locals>.inner" tID na) :
    Fn (GG w) (dd + 2) (.ref aID) [.i a, .i (n : Int)] na (fun v n' => ∃ c nb, v = .ref c ∧ TabIs pID "_int2digits.<locals>.inner" tID nb ∧ n' = (c, LI (digs n k a)) :: nb) := by
  have hz' : k ≤ 2 ^ 20 := Nat.le_trans hz (Nat.pow_le_pow_right (by decide) hd)
  refine Fn.cells ["a", "n"] ["a"] [.i a] (fun L => [(L + 2, CellAny), (L + 3, CellAny), (L + 1, CellIs (.i (n : Int)))]) (fun h hK => hK _ _ rfl) rfl (by kernel_rfl) rfl ?_ ?_ ?_ ?_ ?_ (by decide) (by kernel_rfl) rfl rfl rfl fun X hX henv => ?_
  · exact on2 fun a b => rfl
  · intro L x hx
    rcases List.mem_cons.mp hx with rfl | hx
    · exact .inl rfl
    · rw [List.mem_singleton.mp hx]; exact .inr ⟨rfl, rfl⟩
  · intro vs h
    obtain ⟨u, v, rfl, hv1_, hv2_⟩ := fits2 h
    exact ⟨[some u], ⟨hv1_, trivial⟩, rfl⟩
  · intro L vs h hp hc
    obtain ⟨u, v, rfl, hv1_, hv2_⟩ := fits2 h
    obtain ⟨o1, e1, e1'⟩ := hc "n" (L + 1) rfl
    obtain ⟨o2, e2, e2'⟩ := hc "a_digits" (L + 2) rfl
    obtain ⟨o3, e3, e3'⟩ := hc "inner" (L + 3) rfl
    intro p hp'
    rcases List.mem_cons.mp hp' with rfl | hp'
    · exact ⟨⟨o2, e2, _, e2'⟩, by show L < L + 2; (first | decide | lia | omega)⟩
    · rcases List.mem_cons.mp hp' with rfl | hp'
      · exact ⟨⟨o3, e3, _, e3'⟩, by show L < L + 3; (first | decide | lia | omega)⟩
      · rw [List.mem_singleton.mp hp']
        exact ⟨⟨o1, e1, v, e1', hv2_⟩, by show L < L + 1; (first | decide | lia | omega)⟩
  · intro L
    simp [Led.at]
  show St X [.i a] ((X.L + 2, CellAny) :: (X.L + 3, CellAny) :: (X.L + 1, CellIs (.i (n : Int))) :: na) _ _
  refine St.assignX hX (EvN.rep1 (k := (k : Int)) (EvN.list (EvA.cons (by walk_at "ev") EvA.nil)) (fun c => EvS.as (EvS.div (by (first | decide | lia | omega)) ?_ (EvS.sub (EvS.add (EvS.bits (by walk_at "ev")) (EvS.cell (c := X.L + 1) (a := .i (n : Int)) hX rfl rfl (by (with_reducible (repeat (first | exact List.mem_cons_self | apply List.mem_cons_of_mem)))))) (by walk_at "ev")) (EvS.cell (c := X.L + 1) (a := .i (n : Int)) hX rfl rfl (by (with_reducible (repeat (first | exact List.mem_cons_self | apply List.mem_cons_of_mem)))))) ?_) (by (first | decide | lia | omega)) (by (first | decide | lia | omega))) ?_
  · have : (2 : Nat) ^ 20 < 2 ^ 9000 := Nat.pow_lt_pow_right (by decide) (by decide)
    (first | decide | lia | omega)
  · rw [hk, Int.natCast_ediv]; congr 1; (first | decide | lia | omega)
  rintro v l₁ n₁ ⟨D, rfl, rfl, rfl⟩
  refine ⟨.v (.ref D), _, _, rfl, Sto.cell rfl rfl (fun o h => h) (by (with_reducible (repeat (first | exact Upd.here | apply Upd.there)))), ?_⟩
  have hrep : LS (List.replicate ((k : Int)).toNat (SV.i 0)) = LI (List.replicate k 0) := by
    unfold LI; rw [List.map_replicate]; rfl
  rw [hrep]
  refine St.def_ (m := [(D, LI (List.replicate k 0)), (X.L + 2, CellIs (.v (.ref D))), (X.L + 3, CellAny), (X.L + 1, CellIs (.i (n : Int)))]) hX rfl rfl rfl (by rw [henv]; rfl) (by rw [henv]) (by kernel_rfl) (by rw [henv]; rfl) hT List.perm_append_comm fun f c' PF hPF => ⟨_, _, Sto.cell rfl rfl (fun o h => h) (by (with_reducible (repeat (first | exact Upd.here | apply Upd.there)))), ?_⟩
  have inner : ∀ (kk : Nat) (x : Int) (L R : Nat) (xs : List Int), L < R → R ≤ xs.length → xs.length ≤ 2 ^ 20 → R - L ≤ 2 ^ kk → xs.length * n ≤ 2 ^ 24 → 0 ≤ x → x < 2 ^ ((R - L) * n) →
      Fn (GG w) (kk + 1) (.ref f) [.i x, .i (L : Int), .i (R : Int)] [(D, LI xs), (f, PF), (c', CodeO "_int2digits.<locals>.inner"), (X.L + 2, CellIs (.v (.ref D))), (X.L + 3, CellIs (.v (.ref f))), (X.L + 1, CellIs (.i (n : Int)))]
        (fun v n' => v = .none ∧ n' = [(D, LI (xs.take L ++ digs n (R - L) x ++ xs.drop R)), (f, PF), (c', CodeO "_int2digits.<locals>.inner"), (X.L + 2, CellIs (.v (.ref D))), (X.L + 3, CellIs (.v (.ref f))), (X.L + 1, CellIs (.i (n : Int)))]) := by
    have hFn := FnO.isFn hPF
    subst hPF
    intro kk
    induction kk with
    | zero =>
      intro x L R xs h1 h2 h2' h3 hbb h4 h5
      have hR : R = L + 1 := by (first | decide | lia | omega)
      subst hR
      refine Fn.closure ["x", "L", "R"] ["mid", "shift", "upper", "lower"] ["x", "L", "R", "mid", "shift", "upper", "lower"] rfl [.i x, .i (L : Int), .i ((L + 1 : Nat) : Int), .any, .any, .any, .any] rfl (by (with_reducible (repeat (first | exact List.mem_cons_self | apply List.mem_cons_of_mem)))) (by (with_reducible (repeat (first | exact List.mem_cons_self | apply List.mem_cons_of_mem)))) rfl ?_ (by decide) (by kernel_rfl) (by kernel_rfl) rfl rfl rfl fun Y hY => ?_
      · exact fun doc pm ctv => on3 fun a b c => rfl
      refine St.ite (EvT.eq (by walk_at "ev") (by walk_at "ev")) (fun _ => ?_) (fun h => absurd h (by simp))
      refine St.setItem (k := L) (by walk_at "ev") (EvS.free hY rfl rfl (by (with_reducible (repeat (first | exact List.mem_cons_self | apply List.mem_cons_of_mem))))) (by walk_at "ev") (by rw [List.length_map]; (first | decide | lia | omega)) (by (first | decide | lia | omega)) ?_
      refine St.retNone ⟨_, Led.le_refl _, rfl, ?_⟩
      have e : digs n (L + 1 - L) x = [x] := by
        rw [show L + 1 - L = 1 by (first | decide | lia | omega), digs, digs, Int.emod_eq_of_lt h4 (by rw [show (L + 1 - L) * n = n by rw [show L + 1 - L = 1 by (first | decide | lia | omega), Nat.one_mul]] at h5; exact h5)]
      rw [e, ← set_splice (by (first | decide | lia | omega))]
      simp [LI, List.map_set]
    | succ kk ih =>
      intro x L R xs h1 h2 h2' h3 hbb h4 h5
      refine Fn.closure ["x", "L", "R"] ["mid", "shift", "upper", "lower"] ["x", "L", "R", "mid", "shift", "upper", "lower"] rfl [.i x, .i (L : Int), .i (R : Int), .any, .any, .any, .any] rfl (by (with_reducible (repeat (first | exact List.mem_cons_self | apply List.mem_cons_of_mem)))) (by (with_reducible (repeat (first | exact List.mem_cons_self | apply List.mem_cons_of_mem)))) rfl ?_ (by decide) (by kernel_rfl) (by kernel_rfl) rfl rfl rfl fun Y hY => ?_
      · exact fun doc pm ctv => on3 fun a b c => rfl
      refine St.ite (EvT.eq (by walk_at "ev") (by walk_at "ev")) (fun h => ?_) (fun h => ?_)
      · have hR : R = L + 1 := by
          have : (L : Int) + 1 = R := by simpa using h
          (first | decide | lia | omega)
        subst hR
        refine St.setItem (k := L) (by walk_at "ev") (EvS.free hY rfl rfl (by (with_reducible (repeat (first | exact List.mem_cons_self | apply List.mem_cons_of_mem))))) (by walk_at "ev") (by rw [List.length_map]; (first | decide | lia | omega)) (by (first | decide | lia | omega)) ?_
        refine St.retNone ⟨_, Led.le_refl _, rfl, ?_⟩
        have e : digs n (L + 1 - L) x = [x] := by
          rw [show L + 1 - L = 1 by (first | decide | lia | omega), digs, digs, Int.emod_eq_of_lt h4 (by rw [show (L + 1 - L) * n = n by rw [show L + 1 - L = 1 by (first | decide | lia | omega), Nat.one_mul]] at h5; exact h5)]
        rw [e, ← set_splice (by (first | decide | lia | omega))]
        simp [LI, List.map_set]
      · have hR : R ≠ L + 1 := by
          intro q
          subst q
          exact absurd h (by simp)
        refine St.nilT ?_
        obtain ⟨mid, hm⟩ : ∃ mid, mid = (L + R) / 2 := ⟨_, rfl⟩
        have m1 : L < mid := by (first | decide | lia | omega)
        have m2 : mid < R := by (first | decide | lia | omega)
        obtain ⟨sh, hsh⟩ : ∃ sh, sh = (mid - L) * n := ⟨_, rfl⟩
        have hx1 : x.natAbs < 2 ^ (2 ^ 24) := by
          refine natAbs_lt h4 (Int.lt_of_lt_of_le h5 (ipow_le (Nat.le_trans (Nat.mul_le_mul_right n (by (first | decide | lia | omega))) hbb)))
        refine St.assignS hY (a := .i (mid : Int)) (EvS.as (EvS.shr (k := 1) (by walk_at "ev") (by walk_at "ev")) ?_) (by (with_reducible (repeat (first | exact Put.here | apply Put.there)))) ?_
        · rw [show (2 : Int) ^ 1 = 2 from rfl]; (first | decide | lia | omega)
        refine St.assignS hY (a := .i (sh : Int)) (EvS.as (EvS.mulL ?_ (by walk_at "ev") (EvS.free (a := .i (n : Int)) hY rfl rfl (by (with_reducible (repeat (first | exact List.mem_cons_self | apply List.mem_cons_of_mem)))))) ?_) (by (with_reducible (repeat (first | exact Put.here | apply Put.there)))) ?_
        · (first | decide | lia | omega)
        · rw [hsh, Int.natCast_mul]; congr 1; (first | decide | lia | omega)
        refine St.assignS hY (EvS.shr (k := sh) (by walk_at "ev") (by walk_at "ev")) (by (with_reducible (repeat (first | exact Put.here | apply Put.there)))) ?_
        have hp : (0 : Int) < 2 ^ sh := Int.pow_pos (by decide)
        have q0 : 0 ≤ x / 2 ^ sh := Int.ediv_nonneg h4 (Int.le_of_lt hp)
        have q1 : x / 2 ^ sh < 2 ^ ((R - mid) * n) := by
          refine Int.ediv_lt_of_lt_mul hp ?_
          rw [← Int.pow_add, hsh, ← Nat.add_mul, show R - mid + (mid - L) = R - L by (first | decide | lia | omega)]
          exact h5
        have shb : sh ≤ 2 ^ 24 := by
          rw [hsh]; exact Nat.le_trans (Nat.mul_le_mul_right n (by (first | decide | lia | omega))) hbb
        refine St.assignS hY (a := .i (x % 2 ^ sh)) (EvS.as (EvS.bxor (by walk_at "ev") (EvS.shl (k := sh) (j := 2 ^ 24) ?_ (by (first | decide | lia | omega)) (by walk_at "ev") (by walk_at "ev"))) (bitXor_top h4 sh)) (by (with_reducible (repeat (first | exact Put.here | apply Put.there)))) ?_
        · exact natAbs_lt q0 (Int.lt_of_lt_of_le q1 (ipow_le (Nat.le_trans (Nat.mul_le_mul_right n (by (first | decide | lia | omega))) hbb)))
        refine St.expr (Ev.fnF (m := []) hFn hY (EvS.free hY rfl rfl (by (with_reducible (repeat (first | exact List.mem_cons_self | apply List.mem_cons_of_mem))))) (by (with_reducible (repeat (first | exact List.mem_cons_self | apply List.mem_cons_of_mem)))) (EvA.cons (by walk_at "ev") (EvA.cons (by walk_at "ev") (EvA.cons (by walk_at "ev") EvA.nil))) (Nat.le_refl _) (ih (x % 2 ^ sh) L mid xs m1 (by (first | decide | lia | omega)) h2' (by rw [Nat.pow_succ] at h3; (first | decide | lia | omega)) hbb (Int.emod_nonneg _ (Int.ne_of_gt hp)) (by rw [← hsh]; exact Int.emod_lt_of_pos _ hp)) (by rw [List.append_nil])) ?_ hY.inter
        rintro v l₁ n₁ ⟨rfl, n₂, rfl, rfl, rfl⟩
        refine ⟨fun a q => Value.noConfusion q, ?_⟩
        rw [List.append_nil]
        have hlen : (xs.take L ++ digs n (mid - L) (x % 2 ^ sh) ++ xs.drop mid).length = xs.length := by
          rw [List.length_append, List.length_append, List.length_take, List.length_drop, digs_len]; (first | decide | lia | omega)
        refine St.expr (Ev.fnF (m := []) hFn hY (EvS.free hY rfl rfl (by (with_reducible (repeat (first | exact List.mem_cons_self | apply List.mem_cons_of_mem))))) (by (with_reducible (repeat (first | exact List.mem_cons_self | apply List.mem_cons_of_mem)))) (EvA.cons (by walk_at "ev") (EvA.cons (by walk_at "ev") (EvA.cons (by walk_at "ev") EvA.nil))) (Nat.le_refl _) (ih (x / 2 ^ sh) mid R (xs.take L ++ digs n (mid - L) (x % 2 ^ sh) ++ xs.drop mid) m2 (by (first | decide | lia | omega)) (by (first | decide | lia | omega)) (by rw [Nat.pow_succ] at h3; (first | decide | lia | omega)) (by rw [hlen]; exact hbb) q0 q1) (by rw [List.append_nil])) ?_ hY.inter
        rintro v l₁ n₁ ⟨rfl, n₂, rfl, rfl, rfl⟩
        refine ⟨fun a q => Value.noConfusion q, St.nil ?_⟩
        refine ⟨rfl, ?_⟩
        rw [List.append_nil, splice (digs_len _ _ _) (by (first | decide | lia | omega)) (by (first | decide | lia | omega)) (by (first | decide | lia | omega))]
        have e : digs n (R - L) x = digs n (mid - L) (x % 2 ^ sh) ++ digs n (R - mid) (x / 2 ^ sh) := by
          rw [show R - L = (mid - L) + (R - mid) by (first | decide | lia | omega), digs_add n _ _ x h4, ← hsh]
        rw [e]
  have hFn := FnO.isFn hPF
  have hTab : TabIs pID "_int2digits.<locals>.inner" tID [(tID, TabC pID c'), (c', CodeO "_int2digits.<locals>.inner")] := .inr ⟨c', rfl⟩
  have ret : ∀ ds, ds = digs n k a → ∃ n₂ : Led, Led.le n₂ [(f, PF), (tID, TabC pID c'), (c', CodeO "_int2digits.<locals>.inner"), (D, LI ds), (X.L + 2, CellIs (.v (.ref D))), (X.L + 3, CellIs (.v (.ref f))), (X.L + 1, CellIs (.i (n : Int)))] ∧
      ∃ c nb, retv (.ret (.ref D)) = .ref c ∧ TabIs pID "_int2digits.<locals>.inner" tID nb ∧ n₂ = (c, LI (digs n k a)) :: nb := fun ds e => by
    subst e
    exact ⟨[(D, LI (digs n k a)), (tID, TabC pID c'), (c', CodeO "_int2digits.<locals>.inner")], by (repeat (first | exact Led.nil_le _ | exact Led.le_refl _ | (apply Pick.le; focus ((with_reducible (repeat (first | exact Pick.here | apply Pick.there))); done)) | apply Led.le_skip)), D, _, rfl, hTab, rfl⟩
  refine St.ite (EvT.int (by walk_at "ev")) (fun h => ?_) (fun h => ?_)
  · have ha0 : a ≠ 0 := by simpa using h
    have hbits : 0 < Builtin.Int.intBits a := by
      rw [intBits_eq, if_neg ha0]; (first | decide | lia | omega)
    have hk1 : 0 < k := by
      rw [hk]; exact Nat.div_pos (by (first | decide | lia | omega)) hn
    have hk2 : Builtin.Int.intBits a ≤ k * n := by
      have h1 : n * k + (Builtin.Int.intBits a + n - 1) % n = Builtin.Int.intBits a + n - 1 := by rw [hk]; exact Nat.div_add_mod _ _
      have h2 := Nat.mod_lt (Builtin.Int.intBits a + n - 1) hn
      have h3 : n * k = k * n := Nat.mul_comm _ _
      (first | decide | lia | omega)
    have hlt : a < 2 ^ ((k - 0) * n) := by
      have h1 := lt_intBits a
      have h2 : ((a.natAbs : Nat) : Int) < ((2 ^ Builtin.Int.intBits a : Nat) : Int) := Int.ofNat_lt.mpr h1
      rw [Int.natCast_pow] at h2
      have h3 : ((a.natAbs : Nat) : Int) = a := by (first | decide | lia | omega)
      rw [h3] at h2
      exact Int.lt_of_lt_of_le h2 (ipow_le hk2)
    refine St.expr (Ev.fnF (m := [(tID, TabC pID c')]) hFn hX (EvS.cell (c := X.L + 3) hX rfl rfl (by (with_reducible (repeat (first | exact List.mem_cons_self | apply List.mem_cons_of_mem))))) (by (with_reducible (repeat (first | exact List.mem_cons_self | apply List.mem_cons_of_mem)))) (EvA.cons (by walk_at "ev") (EvA.cons (a := .i ((0 : Nat) : Int)) (by walk_at "ev") (EvA.cons (a := .i (k : Int)) (EvS.as (EvS.len (c := D) (as := (List.replicate k (0 : Int)).map SV.i) (by (first | ((with_reducible show EvS _ _ _ _ (SV.v (Value.ref _))); exact EvS.glob (by assumption) (by kernel_rfl) (by kernel_rfl)) | exact EvS.blt (by assumption) (by kernel_rfl) (by kernel_rfl) (by kernel_rfl))) (EvS.cell (c := X.L + 2) hX rfl rfl (by (with_reducible (repeat (first | exact List.mem_cons_self | apply List.mem_cons_of_mem))))) (Has.mem (by (with_reducible (repeat (first | exact List.mem_cons_self | apply List.mem_cons_of_mem))))) (by simp; (first | decide | lia | omega))) (by simp)) EvA.nil))) (Nat.le_refl _) (inner dd a 0 k (List.replicate k 0) hk1 (by simp) (by simp; (first | decide | lia | omega)) (by (first | decide | lia | omega)) (by simpa using hb) ha hlt) (by ((try simp only [List.cons_append, List.nil_append, List.append_nil]); (repeat (first | exact List.Perm.nil | exact List.Perm.refl _ | (apply Pick.perm; focus ((with_reducible (repeat (first | exact Pick.here | apply Pick.there))); done))))))) ?_ hX.inter
    rintro v l₁ n₁ ⟨rfl, n₂, rfl, rfl, rfl⟩
    refine ⟨fun a q => Value.noConfusion q, St.nilT ?_⟩
    refine St.ret (EvS.cell (c := X.L + 2) (a := .v (.ref D)) hX rfl rfl (by simp only [List.cons_append, List.nil_append]; (with_reducible (repeat (first | exact List.mem_cons_self | apply List.mem_cons_of_mem))))) ?_
    rintro v l₁ n₁ ⟨hv, rfl, rfl⟩
    cases hv
    obtain ⟨n₂, r1, r2⟩ := ret (List.take 0 (List.replicate k 0) ++ digs n (k - 0) a ++ List.drop k (List.replicate k 0)) (by simp)
    refine ⟨n₂, Led.le_trans r1 (Led.le_of_perm (by ((try simp only [List.cons_append, List.nil_append, List.append_nil]); (repeat (first | exact List.Perm.nil | exact List.Perm.refl _ | (apply Pick.perm; focus ((with_reducible (repeat (first | exact Pick.here | apply Pick.there))); done))))))), r2⟩
  · have ha0 : a = 0 := by simpa using h
    have hk0 : k = 0 := by
      rw [hk, ha0]
      exact Nat.div_eq_of_lt (by rw [show Builtin.Int.intBits 0 = 0 from rfl]; (first | decide | lia | omega))
    refine St.nilT ?_
    refine St.ret (EvS.cell (c := X.L + 2) (a := .v (.ref D)) hX rfl rfl (by (with_reducible (repeat (first | exact List.mem_cons_self | apply List.mem_cons_of_mem))))) ?_
    rintro v l₁ n₁ ⟨hv, rfl, rfl⟩
    cases hv
    exact ret _ (by rw [hk0]; rfl)
/-! _digits2int -/
def undigs (n : Nat) : List Int → Int
  | [] => 0
  | d :: ds => d + undigs n ds * 2 ^ n
theorem undigs_append (n : Nat) : ∀ (a b : List Int), undigs n (a ++ b) = undigs n a + undigs n b * 2 ^ (a.length * n)
  | [], b => by simp [undigs]
  | d :: a, b => by
    rw [List.cons_append, undigs, undigs, undigs_append n a b, List.length_cons, Nat.add_mul, Nat.one_mul, Int.pow_add, Int.add_mul, Int.mul_assoc, Int.add_assoc]
theorem undigs_bounds (n : Nat) : ∀ (ds : List Int), (∀ d ∈ ds, 0 ≤ d ∧ d < 2 ^ n) → 0 ≤ undigs n ds ∧ undigs n ds < 2 ^ (ds.length * n)
  | [], _ => ⟨Int.le_refl _, by simp [undigs]⟩
  | d :: ds, h => by
    obtain ⟨h1, h2⟩ := h d (.head _)
    obtain ⟨h3, h4⟩ := undigs_bounds n ds fun x hx => h x (.tail _ hx)
    have hp : (0 : Int) < 2 ^ n := Int.pow_pos (by decide)
    have h5 := Int.mul_nonneg h3 (Int.le_of_lt hp)
    have h6 : (undigs n ds + 1) * 2 ^ n ≤ 2 ^ (ds.length * n) * 2 ^ n := Int.mul_le_mul_of_nonneg_right (by (first | decide | lia | omega)) (Int.le_of_lt hp)
    rw [undigs, List.length_cons, Nat.add_mul, Nat.one_mul, Int.pow_add]
    rw [Int.add_mul] at h6
    (first | decide | lia | omega)

theorem undigs_one (n : Nat) {ds : List Int} {L : Nat} (h : L < ds.length) : undigs n ((ds.drop L).take (L + 1 - L)) = ds[L] := by
  rw [show L + 1 - L = 1 by (first | decide | lia | omega), List.drop_eq_getElem_cons h, List.take_succ_cons, List.take_zero, undigs, undigs]
  (first | decide | lia | omega)
theorem f_di {w : World} (ds : List Int) (n dd : Nat) (D : Addr) (hds : ∀ d ∈ ds, 0 ≤ d ∧ d < 2 ^ n) (hz : ds.length ≤ 2 ^ dd) (hd : dd ≤ 20) (hs : n ≤ 2 ^ 20) (hb : ds.length * n ≤ 2 ^ 24) (na : Led) (hT : TabIs pDI "_digits2int.<locals>.inner" tDI na) :
    Fn (GG w) (dd + 2) (.ref aDI) [.v (.ref D), .i (n : Int)] ((D, LI ds) :: na) (fun v n' => (SV.i (undigs n ds)).is (some v) ∧ ∃ nb, TabIs pDI "_digits2int.<locals>.inner" tDI nb ∧ n' = (D, LI ds) :: nb) := by
  have hz' : ds.length ≤ 2 ^ 20 := Nat.le_trans hz (Nat.pow_le_pow_right (by decide) hd)
  refine Fn.cells ["digits", "n"] [] [] (fun L => [(L + 3, CellAny), (L + 1, CellIs (.v (.ref D))), (L + 2, CellIs (.i (n : Int)))]) (fun h hK => hK _ _ rfl) rfl (by kernel_rfl) rfl ?_ ?_ ?_ ?_ ?_ (by decide) (by kernel_rfl) rfl rfl rfl fun X hX henv => ?_
  · exact on2 fun a b => rfl
  · intro L x hx
    rcases List.mem_cons.mp hx with rfl | hx
    · exact .inr ⟨rfl, rfl⟩
    · rw [List.mem_singleton.mp hx]; exact .inr ⟨rfl, rfl⟩
  · intro vs h
    obtain ⟨u, v, rfl, hv1_, hv2_⟩ := fits2 h
    exact ⟨[], trivial, rfl⟩
  · intro L vs h hp hc
    obtain ⟨u, v, rfl, hv1_, hv2_⟩ := fits2 h
    obtain ⟨o1, e1, e1'⟩ := hc "digits" (L + 1) rfl
    obtain ⟨o2, e2, e2'⟩ := hc "n" (L + 2) rfl
    obtain ⟨o3, e3, e3'⟩ := hc "inner" (L + 3) rfl
    intro p hp'
    rcases List.mem_cons.mp hp' with rfl | hp'
    · exact ⟨⟨o3, e3, _, e3'⟩, by show L < L + 3; (first | decide | lia | omega)⟩
    · rcases List.mem_cons.mp hp' with rfl | hp'
      · exact ⟨⟨o1, e1, u, e1', hv1_⟩, by show L < L + 1; (first | decide | lia | omega)⟩
      · rw [List.mem_singleton.mp hp']
        exact ⟨⟨o2, e2, v, e2', hv2_⟩, by show L < L + 2; (first | decide | lia | omega)⟩
  · intro L
    simp [Led.at]
  show St X [] ((X.L + 3, CellAny) :: (X.L + 1, CellIs (.v (.ref D))) :: (X.L + 2, CellIs (.i (n : Int))) :: (D, LI ds) :: na) _ _
  refine St.def_ (m := [(X.L + 3, CellAny), (X.L + 1, CellIs (.v (.ref D))), (X.L + 2, CellIs (.i (n : Int))), (D, LI ds)]) hX rfl rfl rfl (by rw [henv]; rfl) (by rw [henv]) (by kernel_rfl) (by rw [henv]; rfl) hT List.perm_append_comm fun f c' PF hPF => ⟨_, _, Sto.cell rfl rfl (fun o h => h) (by (with_reducible (repeat (first | exact Upd.here | apply Upd.there)))), ?_⟩
  have inner : ∀ (kk : Nat) (L R : Nat), L < R → R ≤ ds.length → R - L ≤ 2 ^ kk →
      Fn (GG w) (kk + 1) (.ref f) [.i (L : Int), .i (R : Int)] [(D, LI ds), (f, PF), (c', CodeO "_digits2int.<locals>.inner"), (X.L + 3, CellIs (.v (.ref f))), (X.L + 1, CellIs (.v (.ref D))), (X.L + 2, CellIs (.i (n : Int)))]
        (fun v n' => (SV.i (undigs n ((ds.drop L).take (R - L)))).is (some v) ∧ n' = [(D, LI ds), (f, PF), (c', CodeO "_digits2int.<locals>.inner"), (X.L + 3, CellIs (.v (.ref f))), (X.L + 1, CellIs (.v (.ref D))), (X.L + 2, CellIs (.i (n : Int)))]) := by
    have hFn := FnO.isFn hPF
    subst hPF
    have one : ∀ L : Nat, L < ds.length → ∃ d, (ds.map SV.i)[L]? = some (.i d) ∧ undigs n ((ds.drop L).take (L + 1 - L)) = d := fun L h => by
      exact ⟨ds[L], by rw [List.getElem?_map, List.getElem?_eq_getElem h]; rfl, undigs_one n h⟩
    intro kk
    induction kk with
    | zero =>
      intro L R h1 h2 h3
      have hR : R = L + 1 := by (first | decide | lia | omega)
      subst hR
      refine Fn.closure ["L", "R"] ["mid", "shift"] ["L", "R", "mid", "shift"] rfl [.i (L : Int), .i ((L + 1 : Nat) : Int), .any, .any] rfl (by (with_reducible (repeat (first | exact List.mem_cons_self | apply List.mem_cons_of_mem)))) (by (with_reducible (repeat (first | exact List.mem_cons_self | apply List.mem_cons_of_mem)))) rfl ?_ (by decide) (by kernel_rfl) (by kernel_rfl) rfl rfl rfl fun Y hY => ?_
      · exact fun doc pm ctv => on2 fun a b => rfl
      obtain ⟨d, g1, g2⟩ := one L (by (first | decide | lia | omega))
      refine St.ite (EvT.eq (by walk_at "ev") (by walk_at "ev")) (fun _ => ?_) (fun h => absurd h (by simp))
      refine St.retS (EvS.item (k := L) (EvS.free (a := .v (.ref D)) hY rfl rfl (by (with_reducible (repeat (first | exact List.mem_cons_self | apply List.mem_cons_of_mem))))) (by walk_at "ev") (Has.mem (by (with_reducible (repeat (first | exact List.mem_cons_self | apply List.mem_cons_of_mem))))) (by (first | decide | lia | omega)) g1) ?_
      intro v hv
      exact ⟨_, Led.le_refl _, by rw [g2]; exact hv, rfl⟩
    | succ kk ih =>
      intro L R h1 h2 h3
      refine Fn.closure ["L", "R"] ["mid", "shift"] ["L", "R", "mid", "shift"] rfl [.i (L : Int), .i (R : Int), .any, .any] rfl (by (with_reducible (repeat (first | exact List.mem_cons_self | apply List.mem_cons_of_mem)))) (by (with_reducible (repeat (first | exact List.mem_cons_self | apply List.mem_cons_of_mem)))) rfl ?_ (by decide) (by kernel_rfl) (by kernel_rfl) rfl rfl rfl fun Y hY => ?_
      · exact fun doc pm ctv => on2 fun a b => rfl
      refine St.ite (EvT.eq (by walk_at "ev") (by walk_at "ev")) (fun h => ?_) (fun h => ?_)
      · have hR : R = L + 1 := by
          have : (L : Int) + 1 = R := by simpa using h
          (first | decide | lia | omega)
        subst hR
        obtain ⟨d, g1, g2⟩ := one L (by (first | decide | lia | omega))
        refine St.retS (EvS.item (k := L) (EvS.free (a := .v (.ref D)) hY rfl rfl (by (with_reducible (repeat (first | exact List.mem_cons_self | apply List.mem_cons_of_mem))))) (by walk_at "ev") (Has.mem (by (with_reducible (repeat (first | exact List.mem_cons_self | apply List.mem_cons_of_mem))))) (by (first | decide | lia | omega)) g1) ?_
        intro v hv
        exact ⟨_, Led.le_refl _, by rw [g2]; exact hv, rfl⟩
      · have hR : R ≠ L + 1 := by
          intro q
          subst q
          exact absurd h (by simp)
        refine St.nilT ?_
        obtain ⟨mid, hm⟩ : ∃ mid, mid = (L + R) / 2 := ⟨_, rfl⟩
        have m1 : L < mid := by (first | decide | lia | omega)
        have m2 : mid < R := by (first | decide | lia | omega)
        obtain ⟨sh, hsh⟩ : ∃ sh, sh = (mid - L) * n := ⟨_, rfl⟩
        refine St.assignS hY (a := .i (mid : Int)) (EvS.as (EvS.shr (k := 1) (by walk_at "ev") (by walk_at "ev")) ?_) (by (with_reducible (repeat (first | exact Put.here | apply Put.there)))) ?_
        · rw [show (2 : Int) ^ 1 = 2 from rfl]; (first | decide | lia | omega)
        refine St.assignS hY (a := .i (sh : Int)) (EvS.as (EvS.mulL ?_ (by walk_at "ev") (EvS.free (a := .i (n : Int)) hY rfl rfl (by (with_reducible (repeat (first | exact List.mem_cons_self | apply List.mem_cons_of_mem)))))) ?_) (by (with_reducible (repeat (first | exact Put.here | apply Put.there)))) ?_
        · (first | decide | lia | omega)
        · rw [hsh, Int.natCast_mul]; congr 1; (first | decide | lia | omega)
        have shb : sh ≤ 2 ^ 24 := by
          rw [hsh]; exact Nat.le_trans (Nat.mul_le_mul_right n (by (first | decide | lia | omega))) hb
        obtain ⟨u1, u2⟩ := undigs_bounds n ((ds.drop mid).take (R - mid)) fun d hd => hds d (List.mem_of_mem_drop (List.mem_of_mem_take hd))
        refine St.retS (EvS.add (EvS.shl (k := sh) (j := 2 ^ 24) ?_ (by (first | decide | lia | omega))
          (EvS.fnF (m := []) hFn hY (EvS.free hY rfl rfl (by (with_reducible (repeat (first | exact List.mem_cons_self | apply List.mem_cons_of_mem))))) (by (with_reducible (repeat (first | exact List.mem_cons_self | apply List.mem_cons_of_mem)))) (EvA.cons (by walk_at "ev") (EvA.cons (by walk_at "ev") EvA.nil)) (Nat.le_refl _) (ih mid R m2 h2 (by rw [Nat.pow_succ] at h3; (first | decide | lia | omega))) (by rw [List.append_nil])) (by walk_at "ev"))
          (EvS.fnF (m := []) hFn hY (EvS.free hY rfl rfl (by (with_reducible (repeat (first | exact List.mem_cons_self | apply List.mem_cons_of_mem))))) (by (with_reducible (repeat (first | exact List.mem_cons_self | apply List.mem_cons_of_mem)))) (EvA.cons (by walk_at "ev") (EvA.cons (by walk_at "ev") EvA.nil)) (Nat.le_refl _) (ih L mid m1 (by (first | decide | lia | omega)) (by rw [Nat.pow_succ] at h3; (first | decide | lia | omega))) (by rw [List.append_nil]))) ?_
        · refine natAbs_lt u1 (Int.lt_of_lt_of_le u2 (ipow_le (Nat.le_trans (Nat.mul_le_mul_right n ?_) hb)))
          rw [List.length_take, List.length_drop]; (first | decide | lia | omega)
        intro v hv
        refine ⟨_, Led.le_refl _, ?_, rfl⟩
        have e : (ds.drop L).take (R - L) = (ds.drop L).take (mid - L) ++ (ds.drop mid).take (R - mid) := by
          rw [show R - L = (mid - L) + (R - mid) by (first | decide | lia | omega), List.take_add, List.drop_drop, show L + (mid - L) = mid by (first | decide | lia | omega)]
        have e2 : ((ds.drop L).take (mid - L)).length = mid - L := by
          rw [List.length_take, List.length_drop]; (first | decide | lia | omega)
        rw [e, undigs_append, e2, ← hsh, Int.add_comm]
        exact hv
  have hFn := FnO.isFn hPF
  have hTab : TabIs pDI "_digits2int.<locals>.inner" tDI [(tDI, TabC pDI c'), (c', CodeO "_digits2int.<locals>.inner")] := .inr ⟨c', rfl⟩
  refine St.ret (T := fun v l' n' => (SV.i (undigs n ds)).is (some v) ∧ l' = [] ∧ n' = [(f, PF), (tDI, TabC pDI c'), (c', CodeO "_digits2int.<locals>.inner"), (X.L + 3, CellIs (.v (.ref f))), (X.L + 1, CellIs (.v (.ref D))), (X.L + 2, CellIs (.i (n : Int))), (D, LI ds)])
    (Ev.ifexp (EvT.list (c := D) (EvS.cell (c := X.L + 1) hX rfl rfl (by (with_reducible (repeat (first | exact List.mem_cons_self | apply List.mem_cons_of_mem))))) (Has.mem (as := ds.map SV.i) (by (with_reducible (repeat (first | exact List.mem_cons_self | apply List.mem_cons_of_mem))))) (by rw [List.length_map]; (first | decide | lia | omega))) (fun h => ?_) (fun h => ?_)) ?_
  · have hne : 0 < ds.length := by
      cases ds with
      | nil => cases h
      | cons a b => exact Nat.succ_pos _
    have e : (ds.drop 0).take (ds.length - 0) = ds := by simp
    have key := inner dd 0 ds.length hne (Nat.le_refl _) (by (first | decide | lia | omega))
    rw [e] at key
    exact EvS.fnF (m := [(tDI, TabC pDI c')]) hFn hX (EvS.cell (c := X.L + 3) hX rfl rfl (by (with_reducible (repeat (first | exact List.mem_cons_self | apply List.mem_cons_of_mem))))) (by (with_reducible (repeat (first | exact List.mem_cons_self | apply List.mem_cons_of_mem)))) (EvA.cons (a := .i ((0 : Nat) : Int)) (by walk_at "ev") (EvA.cons (a := .i (ds.length : Int)) (EvS.as (EvS.len (c := D) (as := ds.map SV.i) (by (first | ((with_reducible show EvS _ _ _ _ (SV.v (Value.ref _))); exact EvS.glob (by assumption) (by kernel_rfl) (by kernel_rfl)) | exact EvS.blt (by assumption) (by kernel_rfl) (by kernel_rfl) (by kernel_rfl))) (EvS.cell (c := X.L + 1) hX rfl rfl (by (with_reducible (repeat (first | exact List.mem_cons_self | apply List.mem_cons_of_mem))))) (Has.mem (by (with_reducible (repeat (first | exact List.mem_cons_self | apply List.mem_cons_of_mem))))) (by rw [List.length_map]; (first | decide | lia | omega))) (by rw [List.length_map])) EvA.nil)) (Nat.le_refl _) key (by ((try simp only [List.cons_append, List.nil_append, List.append_nil]); (repeat (first | exact List.Perm.nil | exact List.Perm.refl _ | (apply Pick.perm; focus ((with_reducible (repeat (first | exact Pick.here | apply Pick.there))); done))))))
  · have hne : ds = [] := by
      cases ds with
      | nil => rfl
      | cons a b => cases h
    subst hne
    exact EvS.int
  · rintro v l₁ n₁ ⟨hv, rfl, rfl⟩
    exact ⟨[(D, LI ds), (tDI, TabC pDI c'), (c', CodeO "_digits2int.<locals>.inner")], by (repeat (first | exact Led.nil_le _ | exact Led.le_refl _ | (apply Pick.le; focus ((with_reducible (repeat (first | exact Pick.here | apply Pick.there))); done)) | apply Led.le_skip)), hv, _, hTab, rfl⟩
/-! _divmod_pos -/
theorem digs_get (n : Nat) : ∀ (k : Nat) (x : Int) (j : Nat), 0 ≤ x → j < k → (digs n k x)[j]? = some (x / 2 ^ (j * n) % 2 ^ n)
  | 0, _, _, _, h => absurd h (Nat.not_lt_zero _)
  | k + 1, x, 0, _, _ => by simp [digs]
  | k + 1, x, j + 1, h0, h => by
    have hp : (0 : Int) < 2 ^ n := Int.pow_pos (by decide)
    rw [digs, List.getElem?_cons_succ, digs_get n k _ j (Int.ediv_nonneg h0 (Int.le_of_lt hp)) (by (first | decide | lia | omega))]
    rw [Int.ediv_ediv_of_nonneg (Int.le_of_lt hp), ← Int.pow_add, Nat.add_mul, Nat.one_mul, Nat.add_comm n]
theorem long_step {h b P d : Int} (hb : 0 < b) (hP : 0 < P) (hd : 0 ≤ d) (hd2 : d < P) :
    (h * P + d) / b = h / b * P + (h % b * P + d) / b ∧ (h * P + d) % b = (h % b * P + d) % b ∧ 0 ≤ (h % b * P + d) / b ∧ (h % b * P + d) / b < P := by
  have e : h * P + d = (h % b * P + d) + b * (h / b * P) := by
    have h1 := Int.emod_add_mul_ediv h b
    have h2 : h * P = (h % b + b * (h / b)) * P := by rw [h1]
    rw [h2, Int.add_mul, Int.mul_assoc]; (first | decide | lia | omega)
  have r0 := Int.emod_nonneg h (Int.ne_of_gt hb)
  have r1 := Int.emod_lt_of_pos h hb
  have m0 := Int.mul_nonneg r0 (Int.le_of_lt hP)
  refine ⟨?_, ?_, Int.ediv_nonneg (by (first | decide | lia | omega)) (Int.le_of_lt hb), ?_⟩
  · rw [e, Int.add_mul_ediv_left _ _ (Int.ne_of_gt hb)]; (first | decide | lia | omega)
  · rw [e, Int.add_mul_emod_self_left]
  · refine Int.ediv_lt_of_lt_mul hb ?_
    have h3 : (h % b + 1) * P ≤ b * P := Int.mul_le_mul_of_nonneg_right (by (first | decide | lia | omega)) (Int.le_of_lt hP)
    rw [Int.add_mul] at h3
    rw [Int.mul_comm P]
    (first | decide | lia | omega)
theorem bits_le {x : Int} {k : Nat} (h0 : 0 ≤ x) (h : x < 2 ^ k) : Builtin.Int.intBits x ≤ k := bits_of_natAbs (natAbs_lt h0 h)
theorem lt_bits {x : Int} (h0 : 0 ≤ x) : x < 2 ^ Builtin.Int.intBits x := by
  have h1 := lt_intBits x
  have h2 : ((x.natAbs : Nat) : Int) < ((2 ^ Builtin.Int.intBits x : Nat) : Int) := Int.ofNat_lt.mpr h1
  rw [Int.natCast_pow] at h2
  have h3 : ((x.natAbs : Nat) : Int) = x := by (first | decide | lia | omega)
  rw [h3] at h2
  exact h2

def TabsAre (n : Led) : Prop := ∃ na nb, n = na ++ nb ∧ TabIs pID "_int2digits.<locals>.inner" tID na ∧ TabIs pDI "_digits2int.<locals>.inner" tDI nb

theorem f_dp {w : World} (a b : Int) (dd : Nat) (ha : 0 ≤ a) (hb : 0 < b) (hbb : Builtin.Int.intBits b ≤ 4000) (hk : (Builtin.Int.intBits a + Builtin.Int.intBits b - 1) / Builtin.Int.intBits b ≤ 2 ^ dd) (hd : dd ≤ 10) (n₀ : Led) (hT : TabsAre n₀) :
    Fn (GG w) (dd + 3) (.ref aDP) [.i a, .i b] n₀ (fun v n' => ∃ c n₁, v = .ref c ∧ TabsAre n₁ ∧ n' = (c, TS [.i (a / b), .i (a % b)]) :: n₁) := by
  obtain ⟨na, nb, rfl, hTa, hTb⟩ := hT
  refine Fn.plain ["a", "b"] ["n", "a_digits", "r", "q_digits", "a_digit", "q_digit", "q"] ["a", "b", "n", "a_digits", "r", "q_digits", "a_digit", "q_digit", "q"] rfl [.i a, .i b, .any, .any, .any, .any, .any, .any, .any] rfl (fun h hK => hK _ _ rfl) rfl (by kernel_rfl) rfl rfl ?_ (by decide) (by kernel_rfl) (by kernel_rfl) rfl rfl rfl fun X hX => ?_
  · exact on2 fun a b => rfl
  obtain ⟨n, hn⟩ : ∃ n, n = Builtin.Int.intBits b := ⟨_, rfl⟩
  obtain ⟨K, hK⟩ : ∃ K, K = (Builtin.Int.intBits a + n - 1) / n := ⟨_, rfl⟩
  rw [← hn] at hbb hk
  rw [← hK] at hk
  have hn0 : 0 < n := by
    rw [hn, intBits_eq, if_neg (by (first | decide | lia | omega))]; (first | decide | lia | omega)
  have hbP : b < 2 ^ n := by rw [hn]; exact lt_bits (by (first | decide | lia | omega))
  have hP : (0 : Int) < 2 ^ n := Int.pow_pos (by decide)
  have hk2 : K ≤ 2 ^ 10 := Nat.le_trans hk (Nat.pow_le_pow_right (by decide) hd)
  have hKn : K * n ≤ 2 ^ 10 * 4000 := Nat.mul_le_mul hk2 hbb
  have haK : a < 2 ^ (K * n) := by
    have h1 : n * K + (Builtin.Int.intBits a + n - 1) % n = Builtin.Int.intBits a + n - 1 := by rw [hK]; exact Nat.div_add_mod _ _
    have h2 := Nat.mod_lt (Builtin.Int.intBits a + n - 1) hn0
    have h3 : n * K = K * n := Nat.mul_comm _ _
    exact Int.lt_of_lt_of_le (lt_bits ha) (ipow_le (by (first | decide | lia | omega)))
  have hbs : b.natAbs < 2 ^ 9000 := by
    exact natAbs_lt (by (first | decide | lia | omega)) (Int.lt_of_lt_of_le hbP (ipow_le (by (first | decide | lia | omega))))
  refine St.assignS hX (a := .i (n : Int)) (EvS.as (EvS.bits (by walk_at "ev")) (by rw [hn])) (by (with_reducible (repeat (first | exact Put.here | apply Put.there)))) ?_
  refine St.assign hX (Ev.fn hX (by (first | ((with_reducible show EvS _ _ _ _ (SV.v (Value.ref _))); exact EvS.glob (by assumption) (by kernel_rfl) (by kernel_rfl)) | exact EvS.blt (by assumption) (by kernel_rfl) (by kernel_rfl) (by kernel_rfl))) (by kernel_rfl) (EvA.cons (by walk_at "ev") (EvA.cons (by walk_at "ev") EvA.nil)) (Nat.le_refl _) (f_id a n K dd ha hn0 hK hk (by (first | decide | lia | omega)) (by (first | decide | lia | omega)) (by (first | decide | lia | omega)) na hTa) (m := nb) (List.Perm.refl _)) ?_
  rintro v l₁ n₁ ⟨rfl, n₂, rfl, C, na', rfl, hTa', rfl⟩
  refine ⟨.v (.ref C), _, rfl, by (with_reducible (repeat (first | exact Put.here | apply Put.there))), ?_⟩
  refine St.assignS hX (by walk_at "ev") (by (with_reducible (repeat (first | exact Put.here | apply Put.there)))) ?_
  refine St.assignN hX (EvN.list EvA.nil) (by (with_reducible (repeat (first | exact Put.here | apply Put.there)))) fun D => ?_
  have hlen : (digs n K a).length = K := digs_len _ _ _
  rw [List.cons_append]
  refine St.for_ (Iter.rev C ((digs n K a).map SV.i)) hX (J := fun k l n' => ∃ qs z1 z2, k ≤ K ∧ qs.length = k ∧ (∀ q ∈ qs, 0 ≤ q ∧ q < 2 ^ n) ∧ undigs n qs.reverse = a / 2 ^ ((K - k) * n) / b ∧
      l = [.i a, .i b, .i (n : Int), .v (.ref C), .i (a / 2 ^ ((K - k) * n) % b), .v (.ref D), z1, z2, .any] ∧ n' = (D, LI qs) :: (C, LI (digs n K a)) :: (na' ++ nb))
    (EvN.reversed (c := C) (as := (digs n K a).map SV.i) (by (first | ((with_reducible show EvS _ _ _ _ (SV.v (Value.ref _))); exact EvS.glob (by assumption) (by kernel_rfl) (by kernel_rfl)) | exact EvS.blt (by assumption) (by kernel_rfl) (by kernel_rfl) (by kernel_rfl))) (by walk_at "ev") (Has.mem (by (with_reducible (repeat (first | exact List.mem_cons_self | apply List.mem_cons_of_mem)))))) ?_ ?_ ?_ ?_
  · rintro v l₁ n₁ ⟨i, rfl, rfl, rfl⟩
    refine ((Iter.rev C ((digs n K a).map SV.i)).self X i 0 _ _).mono ?_
    rintro v l₁ n₁ ⟨rfl, rfl, rfl⟩
    have e : a / 2 ^ ((K - 0) * n) = 0 := Int.ediv_eq_zero_of_lt ha (by rw [Nat.sub_zero]; exact haK)
    refine ⟨i, _, rfl, rfl, [], .any, .any, Nat.zero_le _, rfl, (by intro q h; cases h), ?_, ?_, ?_⟩
    · rw [e]; simp [undigs]
    · rw [e]; simp
    · rfl
  · rintro k l n' ⟨qs, z1, z2, _, _, _, _, _, rfl⟩
    exact Has.mem (by (with_reducible (repeat (first | exact List.mem_cons_self | apply List.mem_cons_of_mem))))
  · rintro k x l n' hx ⟨qs, z1, z2, hkK, hql, hqs, hun, rfl, rfl⟩
    have hlt : k < K := by
      have := (List.getElem?_eq_some_iff.mp hx).1
      simpa [digs_len] using this
    rw [List.getElem?_reverse (by rw [List.length_map, digs_len]; exact hlt), List.length_map, digs_len, List.getElem?_map, digs_get n K a _ ha (by (first | decide | lia | omega))] at hx
    cases hx
    obtain ⟨h, hh⟩ : ∃ h, h = a / 2 ^ ((K - k) * n) := ⟨_, rfl⟩
    obtain ⟨dg, hdg⟩ : ∃ dg, dg = a / 2 ^ ((K - 1 - k) * n) % 2 ^ n := ⟨_, rfl⟩
    have d0 : 0 ≤ dg := by rw [hdg]; exact Int.emod_nonneg _ (Int.ne_of_gt hP)
    have d1 : dg < 2 ^ n := by rw [hdg]; exact Int.emod_lt_of_pos _ hP
    have next : a / 2 ^ ((K - (k + 1)) * n) = h * 2 ^ n + dg := by
      have e1 : (K - k) * n = (K - 1 - k) * n + n := by rw [show K - k = (K - 1 - k) + 1 by (first | decide | lia | omega), Nat.add_mul, Nat.one_mul]
      rw [hh, hdg, e1, Int.pow_add, ← Int.ediv_ediv_of_nonneg (Int.le_of_lt (Int.pow_pos (by decide))), show K - (k + 1) = K - 1 - k by (first | decide | lia | omega)]
      have := Int.emod_add_mul_ediv (a / 2 ^ ((K - 1 - k) * n)) (2 ^ n)
      rw [Int.mul_comm] at this
      (first | decide | lia | omega)
    obtain ⟨s1, s2, s3, s4⟩ := long_step (h := h) hb hP d0 d1
    have r0 := Int.emod_nonneg h (Int.ne_of_gt hb)
    have r1 := Int.emod_lt_of_pos h hb
    rw [← hh] at hun ⊢
    rw [← hdg]
    have big : h % b * 2 ^ n + dg < 2 ^ (n + n) := by
      have h3 : (h % b + 1) * 2 ^ n ≤ 2 ^ n * 2 ^ n := Int.mul_le_mul_of_nonneg_right (by (first | decide | lia | omega)) (Int.le_of_lt hP)
      rw [Int.add_mul] at h3
      rw [Int.pow_add]
      (first | decide | lia | omega)
    have m0 := Int.mul_nonneg r0 (Int.le_of_lt hP)
    have hbits := bits_le (x := h % b * 2 ^ n + dg) (by (first | decide | lia | omega)) big
    refine ⟨_, by (with_reducible (repeat (first | exact Put.here | apply Put.there))), ?_⟩
    refine St.assign2 hX (Ev.fn (n' := []) hX (by (first | ((with_reducible show EvS _ _ _ _ (SV.v (Value.ref _))); exact EvS.glob (by assumption) (by kernel_rfl) (by kernel_rfl)) | exact EvS.blt (by assumption) (by kernel_rfl) (by kernel_rfl) (by kernel_rfl))) (by kernel_rfl) (EvA.cons (EvS.add (EvS.shl (k := n) (j := n) (natAbs_lt r0 (by (first | decide | lia | omega))) (by (first | decide | lia | omega)) (by walk_at "ev") (by walk_at "ev")) (by walk_at "ev")) (EvA.cons (by walk_at "ev") (EvA.cons (by walk_at "ev") EvA.nil))) (by (first | decide | lia | omega)) (f_d2 (h % b * 2 ^ n + dg) b (n : Int) hb hbs (by (first | decide | lia | omega))) (List.Perm.refl _)) ?_
    rintro v l₁ n₁ ⟨rfl, n₂, rfl, c, rfl, rfl⟩
    refine ⟨c, _, _, _, _, _, rfl, rfl, by (with_reducible (repeat (first | exact Put.here | apply Put.there))), by (with_reducible (repeat (first | exact Put.here | apply Put.there))), ?_⟩
    refine St.append (a := .i ((h % b * 2 ^ n + dg) / b)) (by walk_at "ev") (by walk_at "ev") (by rw [List.length_map]; (first | decide | lia | omega)) ?_ hX.inter
    refine St.nil ⟨qs ++ [(h % b * 2 ^ n + dg) / b], .i dg, .i ((h % b * 2 ^ n + dg) / b), by (first | decide | lia | omega), by rw [List.length_append, hql]; rfl, ?_, ?_, ?_, ?_⟩
    · intro q hq
      rcases List.mem_append.mp hq with hq | hq
      · exact hqs q hq
      · rw [List.mem_singleton.mp hq]; exact ⟨s3, s4⟩
    · rw [next, s1, List.reverse_append, List.reverse_singleton, List.singleton_append, undigs, hun]; (first | decide | lia | omega)
    · rw [next, s2]
    · show (D, LS (List.map SV.i qs ++ [SV.i ((h % b * 2 ^ n + dg) / b)])) :: _ = (D, LS (List.map SV.i (qs ++ [(h % b * 2 ^ n + dg) / b]))) :: _
      rw [List.map_append]; rfl
  · rintro l n' ⟨qs, z1, z2, hkK, hql, hqs, hun, rfl, rfl⟩
    rw [List.length_reverse, List.length_map, hlen] at *
    refine St.nilT ?_
    refine St.reverse (by walk_at "ev") (by rw [List.length_map]; (first | decide | lia | omega)) ?_ hX.inter
    have erev : (qs.map SV.i).reverse = qs.reverse.map SV.i := List.map_reverse.symm
    rw [erev]
    refine St.assign hX (Ev.fn (m := (C, LI (digs n K a)) :: na') hX (by (first | ((with_reducible show EvS _ _ _ _ (SV.v (Value.ref _))); exact EvS.glob (by assumption) (by kernel_rfl) (by kernel_rfl)) | exact EvS.blt (by assumption) (by kernel_rfl) (by kernel_rfl) (by kernel_rfl))) (by kernel_rfl) (EvA.cons (by walk_at "ev") (EvA.cons (by walk_at "ev") EvA.nil)) (Nat.le_refl _) (f_di qs.reverse n dd D (fun q hq => hqs q (List.mem_reverse.mp hq)) (by rw [List.length_reverse, hql]; exact hk) (by (first | decide | lia | omega)) (by (first | decide | lia | omega)) (by rw [List.length_reverse, hql]; (first | decide | lia | omega)) nb hTb) ?_) ?_
    · exact List.Perm.cons _ (List.perm_append_comm.trans (by exact List.Perm.refl _))
    rintro v l₁ n₁ ⟨rfl, n₂, rfl, hv, nb', hTb', rfl⟩
    refine ⟨_, _, hv, by (with_reducible (repeat (first | exact Put.here | apply Put.there))), ?_⟩
    refine St.ret (EvN.tuple (EvA.cons (by walk_at "ev") (EvA.cons (by walk_at "ev") EvA.nil)) (hz := by simp)) ?_
    rintro v l₁ n₁ ⟨t, rfl, rfl, rfl⟩
    have e0 : a / 2 ^ ((K - K) * n) = a := by simp
    rw [e0] at hun
    refine ⟨(t, TS [.i (a / b), .i (a % b)]) :: (na' ++ nb'), ?_, t, na' ++ nb', rfl, ⟨na', nb', rfl, hTa', hTb'⟩, rfl⟩
    rw [hun, e0]
    refine Led.le_cons _ ⟨[(D, LI qs.reverse), (C, LI (digs n K a))], ?_⟩
    show List.Perm ((na' ++ nb') ++ [(D, LI qs.reverse), (C, LI (digs n K a))]) ((D, LI qs.reverse) :: (nb' ++ ((C, LI (digs n K a)) :: na')))
    refine (List.perm_append_comm).trans ?_
    refine List.Perm.cons _ ?_
    show List.Perm ((C, LI (digs n K a)) :: (na' ++ nb')) _
    refine (List.Perm.cons _ List.perm_append_comm).trans ?_
    exact List.perm_middle.symm

/-! int_divmod -/
theorem f_dm0 {w : World} (a b : Int) (dd : Nat) (ha : 0 ≤ a) (hb : 0 < b) (hbb : Builtin.Int.intBits b ≤ 4000) (hk : (Builtin.Int.intBits a + Builtin.Int.intBits b - 1) / Builtin.Int.intBits b ≤ 2 ^ dd) (hd : dd ≤ 10) (n₀ : Led) (hT : TabsAre n₀) :
    Fn (GG w) (dd + 4) (.ref aDM) [.i a, .i b] n₀ (fun v n' => ∃ c n₁, v = .ref c ∧ TabsAre n₁ ∧ n' = (c, TS [.i (a / b), .i (a % b)]) :: n₁) := by
  refine Fn.plain ["a", "b"] ["q", "r"] ["a", "b", "q", "r"] rfl [.i a, .i b, .any, .any] rfl (fun h hK => hK _ _ rfl) rfl (by kernel_rfl) rfl rfl ?_ (by decide) (by kernel_rfl) (by kernel_rfl) rfl rfl rfl fun X hX => ?_
  · exact on2 fun a b => rfl
  refine St.ite (EvT.eq (by walk_at "ev") (by walk_at "ev")) (fun h => absurd h (by simp; (first | decide | lia | omega))) fun _ => ?_
  refine St.ite (EvT.lt (by walk_at "ev") (by walk_at "ev")) (fun h => absurd h (by simp; (first | decide | lia | omega))) fun _ => ?_
  refine St.ite (EvT.lt (by walk_at "ev") (by walk_at "ev")) (fun h => absurd h (by simp; (first | decide | lia | omega))) fun _ => ?_
  refine St.ret (Ev.fn (m := []) hX (by (first | ((with_reducible show EvS _ _ _ _ (SV.v (Value.ref _))); exact EvS.glob (by assumption) (by kernel_rfl) (by kernel_rfl)) | exact EvS.blt (by assumption) (by kernel_rfl) (by kernel_rfl) (by kernel_rfl))) (by kernel_rfl) (EvA.cons (by walk_at "ev") (EvA.cons (by walk_at "ev") EvA.nil)) (Nat.le_refl _) (f_dp a b dd ha hb hbb hk hd n₀ hT) (by rw [List.append_nil])) ?_
  rintro v l₁ n₁ ⟨rfl, n₂, rfl, c, n₃, rfl, hT', rfl⟩
  exact ⟨_, Led.le_refl _, c, n₃, rfl, hT', by rw [List.append_nil]⟩
theorem f_dm {w : World} (a b : Int) (dd : Nat) (hb : 0 < b) (hbb : Builtin.Int.intBits b ≤ 4000) (hk : (Builtin.Int.intBits a + Builtin.Int.intBits b - 1) / Builtin.Int.intBits b ≤ 2 ^ dd) (hd : dd ≤ 10) (n₀ : Led) (hT : TabsAre n₀) :
    Fn (GG w) (dd + 5) (.ref aDM) [.i a, .i b] n₀ (fun v n' => ∃ c n₁, v = .ref c ∧ TabsAre n₁ ∧ n' = (c, TS [.i (a / b), .i (a % b)]) :: n₁) := by
  by_cases ha : 0 ≤ a
  · intro X sc ns cl l vs hX hf
    exact f_dm0 a b dd ha hb hbb hk hd n₀ hT X sc ns cl l vs (hX.mono (by (first | decide | lia | omega))) hf
  refine Fn.plain ["a", "b"] ["q", "r"] ["a", "b", "q", "r"] rfl [.i a, .i b, .any, .any] rfl (fun h hK => hK _ _ rfl) rfl (by kernel_rfl) rfl rfl ?_ (by decide) (by kernel_rfl) (by kernel_rfl) rfl rfl rfl fun X hX => ?_
  · exact on2 fun a b => rfl
  have hbits : Builtin.Int.intBits (-a - 1) ≤ Builtin.Int.intBits a := by
    have := lt_intBits a
    exact bits_of_natAbs (by (first | decide | lia | omega))
  have hn0 : 0 < Builtin.Int.intBits b := by
    rw [intBits_eq, if_neg (by (first | decide | lia | omega))]; (first | decide | lia | omega)
  refine St.ite (EvT.eq (by walk_at "ev") (by walk_at "ev")) (fun h => absurd h (by simp; (first | decide | lia | omega))) fun _ => ?_
  refine St.ite (EvT.lt (by walk_at "ev") (by walk_at "ev")) (fun h => absurd h (by simp; (first | decide | lia | omega))) fun _ => ?_
  refine St.ite (EvT.lt (by walk_at "ev") (by walk_at "ev")) (fun _ => ?_) (fun h => absurd h (by simp; (first | decide | lia | omega)))
  refine St.assign2 hX (Ev.fn (m := []) hX (by (first | ((with_reducible show EvS _ _ _ _ (SV.v (Value.ref _))); exact EvS.glob (by assumption) (by kernel_rfl) (by kernel_rfl)) | exact EvS.blt (by assumption) (by kernel_rfl) (by kernel_rfl) (by kernel_rfl))) (by kernel_rfl) (EvA.cons (by walk_at "ev") (EvA.cons (by walk_at "ev") EvA.nil)) (Nat.le_refl _) (f_dm0 (-a - 1) b dd (by (first | decide | lia | omega)) hb hbb (Nat.le_trans (Nat.div_le_div_right (by (first | decide | lia | omega))) hk) hd n₀ hT) (by rw [List.append_nil])) ?_
  rintro v l₁ n₁ ⟨rfl, n₂, rfl, c, n₃, rfl, hT', rfl⟩
  refine ⟨c, _, _, n₃ ++ [], _, _, rfl, rfl, by (with_reducible (repeat (first | exact Put.here | apply Put.there))), by (with_reducible (repeat (first | exact Put.here | apply Put.there))), ?_⟩
  refine St.ret (EvN.tuple (EvA.cons (by walk_at "ev") (EvA.cons (by walk_at "ev") EvA.nil)) (hz := by simp)) ?_
  rintro v l₁ n₁ ⟨t, rfl, rfl, rfl⟩
  refine ⟨_, Led.le_refl _, t, n₃, rfl, hT', ?_⟩
  have e1 : -((-a - 1) / b) - 1 = a / b := by
    have h1 := Int.emod_add_mul_ediv (-a - 1) b
    have h2 := Int.emod_nonneg (-a - 1) (Int.ne_of_gt hb)
    have h3 := Int.emod_lt_of_pos (-a - 1) hb
    have h4 : a = (b - 1 - (-a - 1) % b) + b * (-((-a - 1) / b) - 1) := by
      rw [Int.mul_sub, Int.mul_neg, Int.mul_one]; (first | decide | lia | omega)
    have h5 : a / b = (b - 1 - (-a - 1) % b) / b + (-((-a - 1) / b) - 1) := by
      conv => lhs; rw [h4]
      rw [Int.add_mul_ediv_left _ _ (Int.ne_of_gt hb)]
    have h6 : (b - 1 - (-a - 1) % b) / b = 0 := Int.ediv_eq_zero_of_lt (by (first | decide | lia | omega)) (by (first | decide | lia | omega))
    rw [h5, h6]
    (first | decide | lia | omega)
  have e2 : b + (-((-a - 1) % b) - 1) = a % b := by
    have h1 := Int.emod_add_mul_ediv (-a - 1) b
    have h4 := Int.emod_add_mul_ediv a b
    rw [← e1, Int.mul_sub, Int.mul_neg, Int.mul_one] at h4
    (first | decide | lia | omega)
  rw [List.append_nil, e1, e2]
/-! pretty_flags -/
def flagNames : List Str := [Str.ofString "OPTIMIZED", Str.ofString "NEWLOCALS", Str.ofString "VARARGS", Str.ofString "VARKEYWORDS", Str.ofString "NESTED", Str.ofString "GENERATOR", Str.ofString "NOFREE", Str.ofString "COROUTINE", Str.ofString "ITERABLE_COROUTINE", Str.ofString "ASYNC_GENERATOR"]
def nmOf (i : Nat) : Str := match flagNames[i]? with
  | some x => x
  | none => baseText "0x" 16 (2 ^ i)
theorem nm_ok : ∀ i : Fin 32, (nmOf i.val).length ≤ 20 ∧ (nmOf i.val).cps.toList.all (fun c => !(c == 44)) = true ∧ (baseText "0x" 16 (2 ^ i.val)).length ≤ 20 := by decide +kernel
theorem nm_zero : (baseText "0x" 16 0).length ≤ 20 ∧ (baseText "0x" 16 0).cps.toList.all (fun c => !(c == 44)) = true := by decide +kernel

def bitsOn (F : Int) (k : Nat) : List Nat := (List.range k).filter fun i => F / 2 ^ i % 2 == 1
theorem bitsOn_succ (F : Int) (k : Nat) : bitsOn F (k + 1) = bitsOn F k ++ (if F / 2 ^ k % 2 = 1 then [k] else []) := by
  unfold bitsOn
  rw [List.range_succ, List.filter_append]
  congr 1
  by_cases h : F / 2 ^ k % 2 = 1 <;> simp [h]
theorem bitsOn_lt {F : Int} {k i : Nat} (h : i ∈ bitsOn F k) : i < k := by
  unfold bitsOn at h
  exact List.mem_range.mp (List.mem_filter.mp h).1
theorem bitsOn_stop {F : Int} {k : Nat} (h0 : 0 ≤ F) (h : F < 2 ^ k) : ∀ j, bitsOn F (k + j) = bitsOn F k
  | 0 => rfl
  | j + 1 => by
    rw [← Nat.add_assoc, bitsOn_succ, bitsOn_stop h0 h j]
    have : F / 2 ^ (k + j) = 0 := Int.ediv_eq_zero_of_lt h0 (Int.lt_of_lt_of_le h (ipow_le (by (first | decide | lia | omega))))
    rw [this]
    simp
/-- how many words pretty_flags tells -/
def flagWords (F : Int) : Nat := if F = 0 then 1 else (bitsOn F 32).length

theorem names_ok (xs : List Str) (h : ∀ x ∈ xs, x.length ≤ 20 ∧ x.cps.toList.all (fun c => !(c == 44)) = true) (hz : xs.length ≤ 40) :
    Builtin.Str.tooLong (xs.toArray.foldl (· + ·.length + sepS.length) 0) = false ∧ (Str.join sepS xs).length ≤ 1000 ∧ Seam (Str.join sepS xs).cps.toList (xs.length - 1) := by
  have hs2 : sepS.length = 2 := by decide +kernel
  have fold : ∀ (ys : List Str) (a : Nat), (∀ x ∈ ys, x.length ≤ 20) → ys.foldl (· + ·.length + sepS.length) a ≤ a + ys.length * 22 := by
    intro ys
    induction ys with
    | nil => intro a _; exact Nat.le_add_right _ _
    | cons y ys ih =>
      intro a hy
      have h1 := hy y (.head _)
      have h2 := ih (a + y.length + sepS.length) fun x hx => hy x (.tail _ hx)
      rw [List.foldl_cons, List.length_cons]
      (first | decide | lia | omega)
  have hsum : ∀ ys : List Str, (∀ x ∈ ys, x.length ≤ 20) → (ys.map (·.length)).sum ≤ ys.length * 20 := by
    intro ys
    induction ys with
    | nil => intro _; exact Nat.le_refl _
    | cons y ys ih =>
      intro hy
      have h1 := hy y (.head _)
      have h2 := ih fun x hx => hy x (.tail _ hx)
      rw [List.map_cons, List.sum_cons, List.length_cons]
      (first | decide | lia | omega)
  refine ⟨?_, ?_, Seam.join xs fun x hx c hc => ?_⟩
  · unfold Builtin.Str.tooLong
    have := fold xs 0 fun x hx => (h x hx).1
    rw [List.foldl_toArray]
    have e := sizeLine_eq
    exact decide_eq_false (by (first | decide | lia | omega))
  · have h1 := StrLaws.join_length_le sepS xs
    have h2 := hsum xs fun x hx => (h x hx).1
    rw [hs2] at h1
    (first | decide | lia | omega)
  · have := List.all_eq_true.mp (h x hx).2 c hc
    simpa using this


theorem flags_dict (w : World) : ((List.range 32).all fun i => (match dictOpt ((KK w).lookup aFN) (2 ^ i) with | some x => x | none => baseText "0x" 16 (2 ^ i)) == nmOf i) = true := by kernel_rfl
theorem flags_chk (w : World) : dictChk ((KK w).lookup aFN) = true := by kernel_rfl

theorem xor_step {y P : Int} (h : y % 2 = 1) : y * P + P - 2 * (1 * P) = y / 2 * (P * 2) := by
  obtain ⟨z, hz⟩ : ∃ z, z = y / 2 := ⟨_, rfl⟩
  have e : y = 2 * z + 1 := by (first | decide | lia | omega)
  rw [← hz, e, Int.add_mul, Int.one_mul, Int.mul_assoc, Int.mul_comm P 2, Int.mul_left_comm z 2 P]
  (first | decide | lia | omega)
theorem f_flags {w : World} (F : Int) (h0 : 0 ≤ F) (h1 : F < 2 ^ 32) :
    Fn (GG w) 1 (.ref aPF) [.i F] [] (fun v n' => ∃ x t, v = .str x t ∧ Seam x.cps.toList (flagWords F - 1) ∧ x.length ≤ 1000 ∧ n' = []) := by
  refine Fn.plain ["flags"] ["names", "i", "flag"] ["flags", "names", "i", "flag"] rfl [.i F, .any, .any, .any] rfl (fun h hK => hK _ _ rfl) rfl (by kernel_rfl) rfl rfl ?_ (by decide) (by kernel_rfl) (by kernel_rfl) rfl rfl rfl fun X hX => ?_
  · exact on1 fun a => rfl
  have nmk : ∀ k, k < 32 → (nmOf k).length ≤ 20 ∧ (nmOf k).cps.toList.all (fun c => !(c == 44)) = true ∧ (baseText "0x" 16 (2 ^ k)).length ≤ 20 := fun k hk => nm_ok ⟨k, hk⟩
  refine St.assignN hX (EvN.list EvA.nil) (by (with_reducible (repeat (first | exact Put.here | apply Put.there)))) fun D => ?_
  refine St.for_ (Iter.range 0 1 32) hX (J := fun k l n' => ∃ z1 z2, k ≤ 32 ∧ (F ≠ 0 → F / 2 ^ k ≠ 0) ∧ l = [.i (F / 2 ^ k * 2 ^ k), .v (.ref D), z1, z2] ∧ n' = [(D, LS (((bitsOn F k).map nmOf).map SV.s))])
    (EvN.range1 (by (first | ((with_reducible show EvS _ _ _ _ (SV.v (Value.ref _))); exact EvS.glob (by assumption) (by kernel_rfl) (by kernel_rfl)) | exact EvS.blt (by assumption) (by kernel_rfl) (by kernel_rfl) (by kernel_rfl))) (by walk_at "ev")) ?_ (fun _ _ _ _ => trivial) ?_ ?_
  · rintro v l₁ n₁ ⟨i, rfl, rfl, rfl⟩
    refine (WP.iterRange (a := 0) (b := 32) (c := 1) (len := 32) (by decide) (by decide)).mono ?_
    rintro v l₁ n₁ ⟨i, rfl, rfl, rfl⟩
    refine ⟨i, _, rfl, rfl, .any, .any, Nat.zero_le _, ?_, ?_, rfl⟩
    · simp
    · simp
  · rintro k x l n' hx ⟨z1, z2, hk, hnz, rfl, rfl⟩
    obtain ⟨hk32, rfl⟩ := runs_get hx
    refine ⟨_, by (with_reducible (repeat (first | exact Put.here | apply Put.there))), ?_⟩
    have hp : (0 : Int) < 2 ^ k := Int.pow_pos (by decide)
    have hq0 : 0 ≤ F / 2 ^ k := Int.ediv_nonneg h0 (Int.le_of_lt hp)
    have hdiv : F / 2 ^ k * 2 ^ k / 2 ^ k = F / 2 ^ k := Int.mul_ediv_cancel _ (Int.ne_of_gt hp)
    have hf0 : 0 ≤ F / 2 ^ k * 2 ^ k := Int.mul_nonneg hq0 (Int.le_of_lt hp)
    have hk' : (0 : Int) + (k : Int) * 1 = (k : Int) := by (first | decide | lia | omega)
    rw [hk']
    have hnext : F / 2 ^ (k + 1) = F / 2 ^ k / 2 := by rw [Int.pow_succ, Int.ediv_ediv_of_nonneg (Int.le_of_lt hp)]
    have hand : Builtin.bitAnd (F / 2 ^ k * 2 ^ k) (2 ^ k) = F / 2 ^ k % 2 * 2 ^ k := by rw [bitAnd_pow hf0, hdiv]
    have hlen : (bitsOn F k).length ≤ 32 := by
      unfold bitsOn
      exact Nat.le_trans (List.length_filter_le _ _) (by rw [List.length_range]; exact hk)
    have hall : ∀ j, j ≤ 32 → ∀ x ∈ (bitsOn F j).map nmOf, x.length ≤ 20 ∧ x.cps.toList.all (fun c => !(c == 44)) = true := by
      intro j hj x hx
      obtain ⟨i, hi, rfl⟩ := List.mem_map.mp hx
      have := nmk i (by have := bitsOn_lt hi; (first | decide | lia | omega))
      exact ⟨this.1, this.2.1⟩
    refine St.assignS hX (a := .i (2 ^ k)) (EvS.as (EvS.shl (x := 1) (k := k) (j := 1) (by decide) (by (first | decide | lia | omega)) (by walk_at "ev") (by walk_at "ev")) (by rw [Int.one_mul])) (by (with_reducible (repeat (first | exact Put.here | apply Put.there)))) ?_
    refine St.ite (EvT.int (EvS.as (by walk_at "ev") hand)) (fun h => ?_) (fun h => ?_)
    · have hbit : F / 2 ^ k % 2 = 1 := by
        have : F / 2 ^ k % 2 * 2 ^ k ≠ 0 := by simpa using h
        have : F / 2 ^ k % 2 ≠ 0 := fun q => this (by rw [q, Int.zero_mul])
        (first | decide | lia | omega)
      have hname : (match dictOpt ((KK w).lookup aFN) (2 ^ k) with | some x => x | none => baseText "0x" 16 (2 ^ k)) = nmOf k := by
        have := List.all_eq_true.mp (flags_dict w) k (List.mem_range.mpr hk32)
        exact eq_of_beq this
      refine St.append (a := .s (nmOf k)) (by walk_at "ev") (EvS.dget (k := 2 ^ k) (u := baseText "0x" 16 (2 ^ k)) hX (flags_chk w) (by decide) hname (by (first | ((with_reducible show EvS _ _ _ _ (SV.v (Value.ref _))); exact EvS.glob (by assumption) (by kernel_rfl) (by kernel_rfl)) | exact EvS.blt (by assumption) (by kernel_rfl) (by kernel_rfl) (by kernel_rfl))) (by walk_at "ev") (EvS.hex (by (first | ((with_reducible show EvS _ _ _ _ (SV.v (Value.ref _))); exact EvS.glob (by assumption) (by kernel_rfl) (by kernel_rfl)) | exact EvS.blt (by assumption) (by kernel_rfl) (by kernel_rfl) (by kernel_rfl))) (by walk_at "ev") (by have := (nmk k hk32).2.2; (first | decide | lia | omega)))) (by rw [List.length_map, List.length_map]; (first | decide | lia | omega)) ?_ hX.inter
      have hxor : Builtin.bitXor (F / 2 ^ k * 2 ^ k) (2 ^ k) = F / 2 ^ (k + 1) * 2 ^ (k + 1) := by
        rw [PyProof.Rows.bitXor_and, hand, hbit, hnext, Int.pow_succ]
        exact xor_step hbit
      refine St.augXor hX (by (with_reducible (repeat (first | exact Look.here | apply Look.there)))) (by walk_at "ev") (by (with_reducible (repeat (first | exact Put.here | apply Put.there)))) ?_
      rw [hxor]
      have hnames : ((bitsOn F k).map nmOf).map SV.s ++ [.s (nmOf k)] = ((bitsOn F (k + 1)).map nmOf).map SV.s := by
        rw [bitsOn_succ, if_pos hbit]; simp
      rw [hnames]
      have hp1 : (0 : Int) < 2 ^ (k + 1) := Int.pow_pos (by decide)
      refine St.ite (EvT.not (EvT.int (by walk_at "ev"))) (fun h => ?_) (fun h => ?_)
      · have hz : F / 2 ^ (k + 1) * 2 ^ (k + 1) = 0 := by simpa using h
        have hz' : F / 2 ^ (k + 1) = 0 := by
          rcases Int.mul_eq_zero.mp hz with q | q
          · exact q
          · exact absurd q (Int.ne_of_gt hp1)
        have hlt : F < 2 ^ (k + 1) := by
          have := Int.emod_add_mul_ediv F (2 ^ (k + 1))
          rw [hz', Int.mul_zero] at this
          have := Int.emod_lt_of_pos F hp1
          (first | decide | lia | omega)
        refine St.brk ?_
        have hst := bitsOn_stop h0 hlt (32 - (k + 1))
        rw [show k + 1 + (32 - (k + 1)) = 32 by (first | decide | lia | omega)] at hst
        have hF : F ≠ 0 := fun q => by rw [q] at hbit; simp at hbit
        have e1 : ((bitsOn F (k + 1)).map nmOf).length = flagWords F := by
          rw [List.length_map, flagWords, if_neg hF, hst]
        have e2 : ((bitsOn F (k + 1)).map nmOf).length ≤ 40 := by
          rw [List.length_map, ← hst]
          unfold bitsOn
          exact Nat.le_trans (List.length_filter_le _ _) (by rw [List.length_range]; (first | decide | lia | omega))
        obtain ⟨j1, j2, j3⟩ := names_ok _ (hall (k + 1) hk32) e2
        refine St.retS (EvS.join (c := D) EvS.str (by walk_at "ev") (Has.mem (by (with_reducible (repeat (first | exact List.mem_cons_self | apply List.mem_cons_of_mem))))) j1 (Nat.le_trans j2 (by decide))) ?_
        rintro v ⟨t, e⟩
        cases e
        exact ⟨[], Led.nil_le _, _, t, rfl, by rw [← e1]; exact j3, j2, rfl⟩
      · have hz : F / 2 ^ (k + 1) * 2 ^ (k + 1) ≠ 0 := by simpa using h
        refine St.nilT (St.nilT (St.nil ⟨_, _, hk32, fun _ q => hz (by rw [q, Int.zero_mul]), rfl, rfl⟩))
    · have hbit : F / 2 ^ k % 2 = 0 := by
        have h' : F / 2 ^ k % 2 * 2 ^ k = 0 := by simpa using h
        rcases Int.mul_eq_zero.mp h' with q | q
        · exact q
        · exact absurd q (Int.ne_of_gt hp)
      have hsame : F / 2 ^ (k + 1) * 2 ^ (k + 1) = F / 2 ^ k * 2 ^ k := by
        rw [hnext, Int.pow_succ, Int.mul_comm (2 ^ k) 2, ← Int.mul_assoc]
        congr 1
        (first | decide | lia | omega)
      refine St.nilT (St.nil ⟨_, _, hk32, fun q r => ?_, by rw [hsame], by rw [bitsOn_succ, if_neg (by (first | decide | lia | omega)), List.append_nil]⟩)
      have := hnz q
      (first | decide | lia | omega)
  · intro l n' hJ
    rw [runs_len] at hJ
    obtain ⟨z1, z2, hk, hnz, rfl, rfl⟩ := hJ
    have hz : F / 2 ^ 32 = 0 := Int.ediv_eq_zero_of_lt h0 h1
    have hF : F = 0 := Decidable.byContradiction fun q => hnz q hz
    subst hF
    have hb : bitsOn 0 32 = [] := by decide +kernel
    have h00 : (0 : Int) / 2 ^ 32 * 2 ^ 32 = 0 := by decide
    rw [hb, h00]
    refine St.append (c := D) (as := []) (a := .s (baseText "0x" 16 0)) (by walk_at "ev") (EvS.hex (by (first | ((with_reducible show EvS _ _ _ _ (SV.v (Value.ref _))); exact EvS.glob (by assumption) (by kernel_rfl) (by kernel_rfl)) | exact EvS.blt (by assumption) (by kernel_rfl) (by kernel_rfl) (by kernel_rfl))) (by walk_at "ev") (by have := nm_zero.1; (first | decide | lia | omega))) (by decide) ?_ hX.inter
    obtain ⟨j1, j2, j3⟩ := names_ok [baseText "0x" 16 0] (by intro x hx; rw [List.mem_singleton.mp hx]; exact nm_zero) (by decide)
    refine St.nilT ?_
    show St X _ [(D, LS ([baseText "0x" 16 0].map SV.s))] _ _
    refine St.retS (EvS.join (c := D) EvS.str (by walk_at "ev") (Has.mem (as := [baseText "0x" 16 0].map SV.s) (by (with_reducible (repeat (first | exact List.mem_cons_self | apply List.mem_cons_of_mem))))) j1 (Nat.le_trans j2 (by decide))) ?_
    rintro v ⟨t, e⟩
    cases e
    exact ⟨[], Led.nil_le _, _, t, rfl, j3, j2, rfl⟩
/-! law 1: _law_divided -/
def divs (lower base : Int) : Nat → Int → List Int
  | 0, _ => []
  | k + 1, rest => base * rest / lower :: divs lower base k (base * rest % lower)
theorem f_divided {w : World} (rest lower base : Int) (size : Nat) (h0 : 0 < lower) (h1 : lower.natAbs < 2 ^ 9000) (h2 : base.natAbs < 2 ^ 64) (h3 : size ≤ 2 ^ 20) :
    Fn (GG w) 1 (.ref 92) [.i rest, .i lower, .i base, .i size] [] (fun v n' => ∃ c, v = .ref c ∧ n' = [(c, LI (divs lower base size rest))]) := by
  refine Fn.plain ["rest", "lower", "base", "size"] ["figures"] ["rest", "lower", "base", "size", "figures"] rfl [.i rest, .i lower, .i base, .i size, .any] rfl (fun h hK => hK _ _ rfl) rfl (by kernel_rfl) rfl rfl ?_ (by decide) (by kernel_rfl) (by kernel_rfl) rfl rfl rfl fun X hX => ?_
  · exact on4 fun a b c d => rfl
  refine St.assignN hX (EvN.list EvA.nil) (by (with_reducible (repeat (first | exact Put.here | apply Put.there)))) fun c => ?_
  refine St.while_ (α := List Int × Int) (fun a l n => l = [.i a.2, .i lower, .i base, .i size, .v (.ref c)] ∧ n = [(c, LI a.1)] ∧ a.1.length ≤ size ∧ a.1 ++ divs lower base (size - a.1.length) a.2 = divs lower base size rest) (fun a => size - a.1.length) ([], rest) ⟨rfl, rfl, Nat.zero_le _, rfl⟩ ?_
  rintro ⟨dn, rs⟩ l n ⟨rfl, rfl, hle, hd⟩
  dsimp only at hle hd ⊢
  refine ⟨_, EvT.lt (EvS.len (by (first | ((with_reducible show EvS _ _ _ _ (SV.v (Value.ref _))); exact EvS.glob (by assumption) (by kernel_rfl) (by kernel_rfl)) | exact EvS.blt (by assumption) (by kernel_rfl) (by kernel_rfl) (by kernel_rfl))) (by walk_at "ev") (Has.mem (.head _)) (by simp; (first | decide | lia | omega))) (by walk_at "ev"), fun hb => ?_, fun hb => ?_⟩
  · have hlt : dn.length < size := by simpa using hb
    refine St.append (a := .i (base * rs / lower)) (by walk_at "ev") (by walk_at "ev") (by simp; (first | decide | lia | omega)) ?_ hX.inter
    refine St.assignS hX (a := .i (base * rs % lower)) (by walk_at "ev") (by (with_reducible (repeat (first | exact Put.here | apply Put.there)))) ?_
    refine St.nil ⟨(dn ++ [base * rs / lower], base * rs % lower), by simp; (first | decide | lia | omega), rfl, by simp [LI], by simp; (first | decide | lia | omega), ?_⟩
    dsimp only
    rw [← hd]
    have : size - dn.length = (size - (dn.length + 1)) + 1 := by (first | decide | lia | omega)
    simp [this, divs]
  · have hlt : dn.length = size := by simp at hb; (first | decide | lia | omega)
    refine St.nilT ?_
    apply St.retS (by walk_at "ev")
    rintro v ⟨rfl⟩
    refine ⟨_, Led.le_refl _, c, rfl, ?_⟩
    have : size - dn.length = 0 := by (first | decide | lia | omega)
    rw [this] at hd
    simp [divs] at hd
    rw [← hd]

theorem small1 {a b : Int} (h1 : -(2 ^ 60) ≤ a) (h2 : a ≤ 2 ^ 60) (h3 : -(2 ^ 60) ≤ b) (h4 : b ≤ 2 ^ 60) : Builtin.Range.small a b 1 = true := by
  have fits : ∀ x : Int, -(2 ^ 62) ≤ x → x ≤ 2 ^ 62 → Builtin.Range.rangeFitsLong x = true := fun x g1 g2 => by
    unfold Builtin.Range.rangeFitsLong
    simp
    (first | decide | lia | omega)
  have hs : -(2 ^ 62) ≤ Builtin.Range.rangeSize a b 1 ∧ Builtin.Range.rangeSize a b 1 ≤ 2 ^ 62 := by
    unfold Builtin.Range.rangeSize
    rw [if_pos (by decide)]
    split <;> (first | decide | lia | omega)
  unfold Builtin.Range.small
  rw [fits a (by (first | decide | lia | omega)) (by (first | decide | lia | omega)), fits b (by (first | decide | lia | omega)) (by (first | decide | lia | omega)), fits 1 (by (first | decide | lia | omega)) (by (first | decide | lia | omega)), fits _ hs.1 hs.2, if_pos (by decide), fits (b + (1 - 1)) (by (first | decide | lia | omega)) (by (first | decide | lia | omega))]
  simp
/-! _law_forms -/
def fIn (lower first : Int) (c m : Int) : Int := if (lower + m * m) % (4 * first) = 0 ∧ first ≤ (lower + m * m) / (4 * first) then c + 1 else c
def fOut (lower : Int) : Nat → Int → Int → Int
  | 0, _, c => c
  | k + 1, f, c => if 3 * f * f ≤ lower then fOut lower k (f + 1) ((runs (1 - f) 1 (2 * f).toNat).foldl (fIn lower f) c) else c
theorem f_forms {w : World} (lower : Int) (h1 : lower ≤ 1000) (k : Nat) (hk : 3 * (k + 1 : Int) * (k + 1) > lower) (hk2 : k ≤ 100) :
    Fn (GG w) 1 (.ref 85) [.i lower] [] (fun v n' => (SV.i (fOut lower k 1 0)).is (some v) ∧ n' = []) := by
  refine Fn.plain ["lower"] ["count", "first", "middle", "last", "over"] ["lower", "count", "first", "middle", "last", "over"] rfl [.i lower, .any, .any, .any, .any, .any] rfl (fun h hK => hK _ _ rfl) rfl (by kernel_rfl) rfl rfl ?_ (by decide) (by kernel_rfl) (by kernel_rfl) rfl rfl rfl fun X hX => ?_
  · exact on1 fun a => rfl
  refine St.assignS hX (by walk_at "ev") (by (with_reducible (repeat (first | exact Put.here | apply Put.there)))) ?_
  refine St.assignS hX (by walk_at "ev") (by (with_reducible (repeat (first | exact Put.here | apply Put.there)))) ?_
  refine St.while_ (α := Nat × Int) (fun a l n => ∃ z1 z2 z3, l = [.i lower, .i a.2, .i ((a.1 : Int) + 1), z1, z2, z3] ∧ n = [] ∧ a.1 ≤ k ∧ fOut lower (k - a.1) ((a.1 : Int) + 1) a.2 = fOut lower k 1 0) (fun a => k - a.1) (0, 0) ⟨_, _, _, rfl, rfl, Nat.zero_le _, rfl⟩ ?_
  rintro ⟨j, c⟩ l n ⟨z1, z2, z3, rfl, rfl, hle, hf⟩
  dsimp only at hle hf ⊢
  refine ⟨_, EvT.le (by walk_at "ev") (by walk_at "ev"), fun hb => ?_, fun hb => ?_⟩
  · have hb' : 3 * ((j : Int) + 1) * (j + 1) ≤ lower := by simpa using hb
    have hjk : j < k := by
      rcases Nat.lt_or_ge j k with h | h
      · exact h
      · have e : j = k := by (first | decide | lia | omega)
        subst e
        (first | decide | lia | omega)
    rw [show k - j = (k - (j + 1)) + 1 by (first | decide | lia | omega), fOut, if_pos hb'] at hf
    obtain ⟨f, hff⟩ : ∃ f : Int, f = (j : Int) + 1 := ⟨_, rfl⟩
    rw [← hff] at hf ⊢
    have f1 : 1 ≤ f := by (first | decide | lia | omega)
    have f2 : f ≤ 101 := by (first | decide | lia | omega)
    have hlen : Builtin.Range.rangeSize (1 - f) (f + 1) 1 = ((2 * f).toNat : Int) := by
      unfold Builtin.Range.rangeSize
      rw [if_pos (by decide), if_pos (by (first | decide | lia | omega))]
      (first | decide | lia | omega)
    refine St.for_ (Iter.range (1 - f) 1 (2 * f).toNat) hX (J := fun q l n' => ∃ z1 z2 z3, l = [.i lower, .i (((runs (1 - f) 1 (2 * f).toNat).take q).foldl (fIn lower f) c), .i f, z1, z2, z3] ∧ n' = [])
      (EvN.range2 (by (first | ((with_reducible show EvS _ _ _ _ (SV.v (Value.ref _))); exact EvS.glob (by assumption) (by kernel_rfl) (by kernel_rfl)) | exact EvS.blt (by assumption) (by kernel_rfl) (by kernel_rfl) (by kernel_rfl))) (by walk_at "ev") (by walk_at "ev")) ?_ (fun _ _ _ _ => trivial) ?_ ?_
    · rintro v l₁ n₁ ⟨i, rfl, rfl, rfl⟩
      refine (WP.iterRange (a := 1 - f) (b := f + 1) (c := 1) (len := (2 * f).toNat) ?_ hlen).mono ?_
      · exact small1 (by (first | decide | lia | omega)) (by (first | decide | lia | omega)) (by (first | decide | lia | omega)) (by (first | decide | lia | omega))
      · rintro v l₁ n₁ ⟨i, rfl, rfl, rfl⟩
        exact ⟨i, _, rfl, rfl, _, _, _, rfl, rfl⟩
    · rintro q x l n' hx ⟨y1, y2, y3, rfl, rfl⟩
      obtain ⟨hq, rfl⟩ := runs_get hx
      obtain ⟨m, hm⟩ : ∃ m : Int, m = 1 - f + (q : Int) * 1 := ⟨_, rfl⟩
      rw [← hm]
      have htake : ((runs (1 - f) 1 (2 * f).toNat).take (q + 1)).foldl (fIn lower f) c = fIn lower f (((runs (1 - f) 1 (2 * f).toNat).take q).foldl (fIn lower f) c) m := by
        have : (runs (1 - f) 1 (2 * f).toNat)[q]? = some m := by
          unfold runs
          rw [List.getElem?_map, List.getElem?_range hq, hm]; rfl
        rw [List.take_add_one, this, List.foldl_append]; rfl
      refine ⟨_, by (with_reducible (repeat (first | exact Put.here | apply Put.there))), ?_⟩
      refine St.assign2N hX (EvN.divmod (j := lower + m * m) (k := 4 * f) (by (first | decide | lia | omega)) (Nat.lt_of_lt_of_le (show (4 * f).natAbs < 2 ^ 10 by (first | decide | lia | omega)) (Nat.pow_le_pow_right (by decide) (by decide))) (by (first | ((with_reducible show EvS _ _ _ _ (SV.v (Value.ref _))); exact EvS.glob (by assumption) (by kernel_rfl) (by kernel_rfl)) | exact EvS.blt (by assumption) (by kernel_rfl) (by kernel_rfl) (by kernel_rfl))) (by walk_at "ev") (by walk_at "ev")) (by (with_reducible (repeat (first | exact Put.here | apply Put.there)))) (by (with_reducible (repeat (first | exact Put.here | apply Put.there)))) ?_
      refine St.ite (EvT.and2 (EvT.eq (by walk_at "ev") (by walk_at "ev")) fun _ => EvT.ge (by walk_at "ev") (by walk_at "ev")) (fun h => ?_) (fun h => ?_)
      · refine St.augAdd hX (by (with_reducible (repeat (first | exact Look.here | apply Look.there)))) (by walk_at "ev") (by (with_reducible (repeat (first | exact Put.here | apply Put.there)))) ?_
        rw [fIn, if_pos (by simpa using h)] at htake
        rw [← htake]
        exact St.nilT (St.nil ⟨_, _, _, rfl, rfl⟩)
      · rw [fIn, if_neg (by simpa using h)] at htake
        rw [← htake]
        exact St.nilT (St.nil ⟨_, _, _, rfl, rfl⟩)
    · intro l n' hJ
      rw [runs_len] at hJ
      obtain ⟨y1, y2, y3, rfl, rfl⟩ := hJ
      have hall : (runs (1 - f) 1 (2 * f).toNat).take (2 * f).toNat = runs (1 - f) 1 (2 * f).toNat := List.take_of_length_le (by simp [runs])
      rw [hall]
      refine St.nilT ?_
      refine St.augAdd hX (by (with_reducible (repeat (first | exact Look.here | apply Look.there)))) (by walk_at "ev") (by (with_reducible (repeat (first | exact Put.here | apply Put.there)))) ?_
      have e : f + 1 = ((j + 1 : Nat) : Int) + 1 := by (first | decide | lia | omega)
      rw [e] at hf ⊢
      exact St.nil ⟨(j + 1, _), by show k - (j + 1) < k - j; (first | decide | lia | omega), _, _, _, rfl, rfl, hjk, hf⟩
  · have hb' : ¬ 3 * ((j : Int) + 1) * (j + 1) ≤ lower := by simpa using hb
    refine St.nilT ?_
    apply St.retS (by walk_at "ev")
    intro v hv
    refine ⟨_, Led.le_refl _, ?_, rfl⟩
    have e : fOut lower (k - j) ((j : Int) + 1) c = c := by
      cases q : k - j with
      | zero => rfl
      | succ z => rw [fOut, if_neg hb']
    rw [← hf, e]
    exact hv
/-! _law_told -/
def smallOf (fs : List Int) (bits : Nat) : Int := ((fs.filter fun f => decide (2 * f ≤ 2 ^ bits - 1)).length : Int)
def told (fs : List Int) (bits : Nat) (orbit lean times : Int) : Bool :=
  if ((bits : Int) * fs.sum != 6 * (2 ^ bits - 1) * (orbit - lean)) = true then false else (bits : Int) * (2 * smallOf fs bits - fs.length) == 12 * times * lean
theorem f_told {w : World} (fs : List Int) (bits : Nat) (orbit lean times : Int) (C : Addr) (hb : bits ≤ 10) (hz : fs.length ≤ 2 ^ 20) (ht : times.natAbs < 2 ^ 20) :
    Fn (GG w) 2 (.ref 97) [.v (.ref C), .i (bits : Int), .i orbit, .i lean, .i times] [(C, LI fs)] (fun v n' => (SV.v (.bool (told fs bits orbit lean times))).is (some v) ∧ n' = [(C, LI fs)]) := by
  refine Fn.cells ["figures", "bits", "orbit", "lean", "times"] ["figures", "bits", "orbit", "lean", "times", "small"] [.v (.ref C), .i (bits : Int), .i orbit, .i lean, .i times, .any] (fun L => [(L + 1, CellAny)]) (fun h hK => hK _ _ rfl) rfl (by kernel_rfl) rfl ?_ ?_ ?_ ?_ ?_ (by decide) (by kernel_rfl) rfl rfl rfl fun X hX henv => ?_
  · exact on5 fun a b c d e => rfl
  · intro L x hx
    left
    revert x
    decide
  · intro vs h
    match vs, h with
    | [v1, v2, v3, v4, v5], h => 
      exact ⟨[some v1, some v2, some v3, some v4, some v5, none], ⟨h.1, h.2.1, h.2.2.1, h.2.2.2.1, h.2.2.2.2.1, trivial, trivial⟩, bindL_mp _ ["figures", "bits", "orbit", "lean", "times"] ["small"] [v1, v2, v3, v4, v5] (by decide) rfl (by decide)⟩
  · intro L vs h hp hc
    obtain ⟨o1, e1, e1'⟩ := hc "greatest" (L + 1) rfl
    intro p hp'
    rw [List.mem_singleton.mp hp']
    exact ⟨⟨o1, e1, _, e1'⟩, by show L < L + 1; (first | decide | lia | omega)⟩
  · intro L
    simp [Led.at]
  show St X [.v (.ref C), .i (bits : Int), .i orbit, .i lean, .i times, .any] [(X.L + 1, CellAny), (C, LI fs)] _ _
  obtain ⟨g, hg⟩ : ∃ g : Int, g = 2 ^ bits - 1 := ⟨_, rfl⟩
  have g0 : 0 ≤ g ∧ g < 2 ^ 10 := by
    have h1 := ipow_le hb
    have h2 : (0 : Int) < 2 ^ bits := Int.pow_pos (by decide)
    (first | decide | lia | omega)
  have hC : ∀ n, Has X ((X.L + 1, n) :: [(C, LI fs)]) C (fs.map SV.i) := fun n => Has.mem (.tail _ (.head _))
  refine St.assignX hX (EvS.as (y := g) (EvS.sub (EvS.pow (x := 2) (k := bits) (j := 2) (by decide) (by (first | decide | lia | omega)) (by walk_at "ev") (by walk_at "ev")) (by walk_at "ev")) hg.symm) ?_
  rintro v l₁ n₁ ⟨hv, rfl, rfl⟩
  refine ⟨_, _, _, hv, Sto.cell rfl rfl (fun o h => h) (by (with_reducible (repeat (first | exact Upd.here | apply Upd.there)))), ?_⟩
  refine St.assignS hX (a := .i (smallOf fs bits)) (EvS.as (EvS.len1 (as := (fs.filter fun f => decide (2 * f ≤ g)).map SV.i) (by (first | ((with_reducible show EvS _ _ _ _ (SV.v (Value.ref _))); exact EvS.glob (by assumption) (by kernel_rfl) (by kernel_rfl)) | exact EvS.blt (by assumption) (by kernel_rfl) (by kernel_rfl) (by kernel_rfl))) (EvN.compG (clc := [(Str.ofString "greatest", X.L + 1)]) hX (by rw [henv]; rfl) (by kernel_rfl) rfl (by kernel_rfl) (by kernel_rfl) (by decide) (EvS.loc (a := .v (.ref C)) hX (by (with_reducible (repeat (first | exact Look.here | apply Look.there)))) rfl) (fun v l₁ n₁ h => ?_)) (by rw [List.length_map]; exact Nat.le_trans (List.length_filter_le _ _) (by (first | decide | lia | omega)))) (by rw [List.length_map, smallOf, hg])) (by (with_reducible (repeat (first | exact Put.here | apply Put.there)))) ?_
  · obtain ⟨h1, rfl, rfl⟩ := h
    cases h1
    refine ⟨_, ?_, CompIs.ints (fun f => decide (2 * f ≤ g)) SV.i (Iter.list C (fs.map SV.i)) (WP.iterList (hC _)) (fun X' hg' => ?_) (by (first | decide | lia | omega)) (fun X' hg' hX' a ha => ?_)⟩
    · exact Led.le_refl _
    · exact Has.mem (by (with_reducible (repeat (first | exact List.mem_cons_self | apply List.mem_cons_of_mem))))
    · refine ⟨.inr ⟨_, rfl, EvT.le (by walk_at "ev") (EvS.cell (c := X.L + 1) (a := .i g) hX' (by kernel_rfl) (by kernel_rfl) (by (with_reducible (repeat (first | exact List.mem_cons_self | apply List.mem_cons_of_mem)))))⟩, fun _ => by walk_at "ev"⟩
  refine St.ite (EvT.ne (EvS.mul (by walk_at "ev") (EvS.sum (c := C) (ks := fs) hX (by (first | ((with_reducible show EvS _ _ _ _ (SV.v (Value.ref _))); exact EvS.glob (by assumption) (by kernel_rfl) (by kernel_rfl)) | exact EvS.blt (by assumption) (by kernel_rfl) (by kernel_rfl) (by kernel_rfl))) (by walk_at "ev") (hC _)) (by (first | decide | lia | omega))) (EvS.mul (EvS.mul (by walk_at "ev") (EvS.cell (c := X.L + 1) (a := .i g) hX rfl rfl (by (with_reducible (repeat (first | exact List.mem_cons_self | apply List.mem_cons_of_mem))))) (by decide)) (by walk_at "ev") (by (first | decide | lia | omega)))) (fun h => ?_) (fun h => ?_)
  · refine St.retS EvS.bool ?_
    rintro v ⟨rfl⟩
    refine ⟨[(C, LI fs)], Led.le_skip _ (Led.le_refl _), ?_, rfl⟩
    rw [hg] at h
    rw [told, if_pos h]; rfl
  · refine St.nilT ?_
    refine St.retS (EvS.eqV (EvS.mul (by walk_at "ev") (EvS.sub (EvS.mul (by walk_at "ev") (by walk_at "ev") (by decide)) (EvS.as (EvS.len (c := C) (as := fs.map SV.i) (by (first | ((with_reducible show EvS _ _ _ _ (SV.v (Value.ref _))); exact EvS.glob (by assumption) (by kernel_rfl) (by kernel_rfl)) | exact EvS.blt (by assumption) (by kernel_rfl) (by kernel_rfl) (by kernel_rfl))) (by walk_at "ev") (hC _) (by rw [List.length_map]; (first | decide | lia | omega))) (by rw [List.length_map]))) (by (first | decide | lia | omega))) (EvS.mul (EvS.mul (by walk_at "ev") (by walk_at "ev") (by decide)) (by walk_at "ev") (by (first | decide | lia | omega)))) ?_
    rintro v ⟨rfl⟩
    refine ⟨[(C, LI fs)], Led.le_skip _ (Led.le_refl _), ?_, rfl⟩
    rw [hg] at h
    rw [told, if_neg (by rw [h]; decide)]; rfl
/-! ### The plain law 1 -/
def sqsOf (p : Int) : List Int := (runs 1 1 (p / 2).toNat).map fun r => r * r % p
def hOf (p : Int) : Int := fOut p 10 1 0
def leanOf (p u : Int) : Int := if u ∈ sqsOf p then hOf p else -hOf p
def moreOf (p : Int) : Int := if 2 ∈ sqsOf p then 1 else 3
def ownOf (p u : Int) : List Int := divs p 64 (2 * (p / 2)).toNat u
def octOf (p u : Int) : List Int := ((ownOf p u).take ((ownOf p u).length - 1)).map (64 + ·) ++ (ownOf p u).drop ((ownOf p u).length - 1)
def numOf (p u : Int) : Int := vint (octOf p u)
def wordOf (x : Int) : List Int := ((idig 16 170 x).reverse.map (65 + ·)).map (· - 65)
def padTo (k : Int) (xs : List Int) : List Int := List.replicate (k - xs.length).toNat 0 ++ xs
def digitsOf (n : Nat) (x : Int) : List Int := digs n ((Builtin.Int.intBits x + n - 1) / n) x
def chk (p u : Int) : Bool :=
  decide (0 < numOf p u) && decide (numOf p u < 2 ^ 640) && (ownOf p u).all (fun d => decide (0 ≤ d) && decide (d < 64)) &&
  ((1 + u * (1 - 2 ^ (12 * (p / 2)).toNat)) / numOf p u == -p) && ((1 + u * (1 - 2 ^ (12 * (p / 2)).toNat)) % numOf p u == 1) &&
  told (padTo (3 * (p / 2)) (wordOf (numOf p u))) 4 (p / 2) (leanOf p u) (moreOf p) && (padTo (3 * (p / 2)) (wordOf (numOf p u)) == divs p 16 (3 * (p / 2)).toNat u) &&
  told (padTo (2 * (p / 2)) (digitsOf 6 (numOf p u)).reverse) 6 (p / 2) (leanOf p u) (moreOf p) && (padTo (2 * (p / 2)) (digitsOf 6 (numOf p u)).reverse == ownOf p u) &&
  (((digitsOf 32 (numOf p u)).map fun x => ((flagWords x - 1 + 1 : Nat) : Int)).sum == 6 * (p / 2) - (if moreOf p == 1 then 6 * leanOf p u else 0))
def primesOf : List Int := [11, 23, 47, 59, 71, 83, 107]
/-! the finite check once more, on Nat: the kernel is quick there -/
def divN (p b : Nat) : Nat → Nat → List Nat
  | 0, _ => []
  | k + 1, r => b * r / p :: divN p b k (b * r % p)
def valN (ds : List Nat) : Nat := ds.foldl (fun v d => v * 64 + d) 0
def idigN : Nat → Nat → List Nat
  | 0, _ => []
  | k + 1, n => bif Nat.beq n 0 then [] else n % 16 :: idigN k (n / 16)
def digsN (m : Nat) : Nat → Nat → List Nat
  | 0, _ => []
  | k + 1, x => x % m :: digsN m k (x / m)
def lenN (n x : Nat) : Nat := ((bif Nat.beq x 0 then 0 else x.log2 + 1) + n - 1) / n
def popN : Nat → Nat → Nat
  | 0, _ => 0
  | k + 1, x => x % 2 + popN k (x / 2)
def padN (k : Nat) (xs : List Nat) : List Nat := List.replicate (k - xs.length) 0 ++ xs
def sumN : List Nat → Nat
  | [] => 0
  | x :: xs => x + sumN xs
def cntN (g : Nat) : List Nat → Nat
  | [] => 0
  | x :: xs => (bif Nat.ble (2 * x) g then 1 else 0) + cntN g xs
def eqN : List Nat → List Nat → Bool
  | [], [] => true
  | x :: xs, y :: ys => Nat.beq x y && eqN xs ys
  | _, _ => false
def toldN (fs : List Nat) (bits : Nat) (orbit lean times : Int) : Bool :=
  ((bits : Int) * (sumN fs : Int) == 6 * (2 ^ bits - 1) * (orbit - lean)) && ((bits : Int) * (2 * (cntN (2 ^ bits - 1) fs : Int) - (fs.length : Int)) == 12 * times * lean)
def flagN (x : Nat) : Nat := bif Nat.beq x 0 then 1 else popN 32 x
def flagSum : List Nat → Nat
  | [] => 0
  | x :: xs => (flagN x - 1 + 1) + flagSum xs
def allN : List Nat → Bool
  | [] => true
  | x :: xs => Nat.blt x 64 && allN xs
def chkN (p u : Nat) : Bool :=
  allN (divN p 64 (2 * (p / 2)) u) && Nat.blt 1 (valN (divN p 64 (2 * (p / 2)) u)) && Nat.blt (valN (divN p 64 (2 * (p / 2)) u)) (2 ^ 640) &&
  Nat.beq (u * (2 ^ (12 * (p / 2)) - 1)) (p * valN (divN p 64 (2 * (p / 2)) u)) &&
  toldN (padN (3 * (p / 2)) (idigN 170 (valN (divN p 64 (2 * (p / 2)) u))).reverse) 4 ((p : Int) / 2) (leanOf p u) (moreOf p) && eqN (padN (3 * (p / 2)) (idigN 170 (valN (divN p 64 (2 * (p / 2)) u))).reverse) (divN p 16 (3 * (p / 2)) u) &&
  toldN (padN (2 * (p / 2)) (digsN 64 (lenN 6 (valN (divN p 64 (2 * (p / 2)) u))) (valN (divN p 64 (2 * (p / 2)) u))).reverse) 6 ((p : Int) / 2) (leanOf p u) (moreOf p) && eqN (padN (2 * (p / 2)) (digsN 64 (lenN 6 (valN (divN p 64 (2 * (p / 2)) u))) (valN (divN p 64 (2 * (p / 2)) u))).reverse) (divN p 64 (2 * (p / 2)) u) &&
  ((flagSum (digsN (2 ^ 32) (lenN 32 (valN (divN p 64 (2 * (p / 2)) u))) (valN (divN p 64 (2 * (p / 2)) u))) : Int) == 6 * ((p : Int) / 2) - (if moreOf p == 1 then 6 * leanOf p u else 0))
def cI (n : Nat) : Int := n
theorem divs_cast (p b : Nat) : ∀ (k r : Nat), divs (p : Int) (b : Int) k (r : Int) = (divN p b k r).map cI
  | 0, _ => rfl
  | k + 1, r => by
    have e1 : (b : Int) * (r : Int) / (p : Int) = ((b * r / p : Nat) : Int) := by simp
    have e2 : (b : Int) * (r : Int) % (p : Int) = ((b * r % p : Nat) : Int) := by simp
    rw [divs, divN, e1, e2, divs_cast p b k]
    rfl
theorem beqF {n : Nat} (h : ¬ n = 0) : Nat.beq n 0 = false := by
  cases n with
  | zero => exact absurd rfl h
  | succ n => rfl
theorem idig_cast : ∀ (k n : Nat), idig 16 k (n : Int) = (idigN k n).map cI
  | 0, _ => rfl
  | k + 1, n => by
    unfold idig idigN
    by_cases h : n = 0
    · subst h; rfl
    · have e := beqF h
      rw [if_neg (by (first | decide | lia | omega)), e]
      show _ = ((n % 16) :: idigN k (n / 16)).map cI
      rw [List.map_cons, ← idig_cast k (n / 16)]
      congr 1
theorem digs_cast (n : Nat) : ∀ (k x : Nat), digs n k (x : Int) = (digsN (2 ^ n) k x).map cI
  | 0, _ => rfl
  | k + 1, x => by
    have e1 : (x : Int) % 2 ^ n = ((x % 2 ^ n : Nat) : Int) := by simp
    have e2 : (x : Int) / 2 ^ n = ((x / 2 ^ n : Nat) : Int) := by simp
    rw [digs, digsN, e1, e2, digs_cast n k]
    rfl
theorem len_cast (n x : Nat) : (Builtin.Int.intBits (x : Int) + n - 1) / n = lenN n x := by
  rw [intBits_eq, lenN]
  by_cases h : x = 0
  · subst h; rfl
  · have e := beqF h
    rw [if_neg (by (first | decide | lia | omega)), e]
    rfl
theorem word_cast (n : Nat) : wordOf (n : Int) = ((idigN 170 n).reverse).map cI := by
  unfold wordOf
  have : ((fun x : Int => x - 65) ∘ fun x => 65 + x) = id := by
    funext x
    show 65 + x - 65 = x
    (first | decide | lia | omega)
  rw [List.map_map, this, List.map_id, idig_cast, List.map_reverse]
theorem pad_cast (k : Nat) (xs : List Nat) : padTo (k : Int) (xs.map cI) = (padN k xs).map cI := by
  unfold padTo padN
  rw [List.map_append, List.map_replicate, List.length_map]
  have e : ((k : Int) - (xs.length : Int)).toNat = k - xs.length := by (first | decide | lia | omega)
  rw [e]
  rfl
theorem sum_cast : ∀ xs : List Nat, (xs.map cI).sum = (sumN xs : Int)
  | [] => rfl
  | x :: xs => by
    rw [List.map_cons, List.sum_cons, sum_cast xs, sumN, Int.natCast_add]
    rfl
theorem cnt_cast (g : Nat) : ∀ xs : List Nat, ((xs.map cI).filter fun f => decide (2 * f ≤ (g : Int))).length = cntN g xs
  | [] => rfl
  | x :: xs => by
    rw [List.map_cons, List.filter_cons, cntN, ← cnt_cast g xs]
    have e : decide (2 * cI x ≤ (g : Int)) = Nat.ble (2 * x) g := by
      rw [Bool.eq_iff_iff, decide_eq_true_eq, Nat.ble_eq]
      unfold cI
      (first | decide | lia | omega)
    rw [e]
    cases Nat.ble (2 * x) g
    · simp
    · simp; (first | decide | lia | omega)
theorem told_cast (fs : List Nat) (bits : Nat) (o l t : Int) (h : toldN fs bits o l t = true) : told (fs.map cI) bits o l t = true := by
  unfold toldN at h
  rw [Bool.and_eq_true, beq_iff_eq, beq_iff_eq] at h
  obtain ⟨h1, h2⟩ := h
  have e : (2 : Int) ^ bits - 1 = ((2 ^ bits - 1 : Nat) : Int) := by
    have : 0 < 2 ^ bits := Nat.pow_pos (by decide)
    rw [Int.natCast_sub (by (first | decide | lia | omega))]
    simp
  unfold told smallOf
  rw [sum_cast, h1, if_neg (by simp), e, cnt_cast, List.length_map, h2]
  simp
theorem eq_cast : ∀ {xs ys : List Nat}, eqN xs ys = true → xs = ys
  | [], [], _ => rfl
  | x :: xs, y :: ys, h => by
    rw [eqN, Bool.and_eq_true] at h
    rw [Nat.eq_of_beq_eq_true h.1, eq_cast h.2]
  | [], _ :: _, h => by cases h
  | _ :: _, [], h => by cases h
theorem pop_cast : ∀ (k x : Nat), ((List.range k).filter fun i => (x : Int) / 2 ^ i % 2 == 1).length = popN k x
  | 0, _ => rfl
  | k + 1, x => by
    have ih := pop_cast k (x / 2)
    rw [popN, ← ih, List.range_succ_eq_map, List.filter_cons, List.filter_map, Nat.add_comm]
    have e : ((fun i : Nat => (x : Int) / 2 ^ i % 2 == 1) ∘ Nat.succ) = fun i => ((x / 2 : Nat) : Int) / 2 ^ i % 2 == 1 := by
      funext i
      show ((x : Int) / 2 ^ (i + 1) % 2 == 1) = _
      have : (x : Int) / 2 ^ (i + 1) = ((x / 2 : Nat) : Int) / 2 ^ i := by
        rw [Int.pow_succ, Int.mul_comm, ← Int.ediv_ediv_of_nonneg (by decide)]
        rfl
      rw [this]
    rw [e]
    have e0 : ((x : Int) / 2 ^ 0 % 2 == 1) = decide (x % 2 = 1) := by
      rw [Int.pow_zero, Int.ediv_one, Bool.eq_iff_iff, beq_iff_eq, decide_eq_true_eq]
      (first | decide | lia | omega)
    rw [e0]
    rcases Nat.mod_two_eq_zero_or_one x with m | m <;> simp [m]
theorem flag_cast (x : Nat) : flagWords (x : Int) = flagN x := by
  unfold flagWords flagN
  by_cases h : x = 0
  · subst h; rfl
  · have e := beqF h
    rw [if_neg (by (first | decide | lia | omega)), e]
    exact pop_cast 32 x
theorem flagSum_cast : ∀ xs : List Nat, ((xs.map cI).map fun x => ((flagWords x - 1 + 1 : Nat) : Int)).sum = (flagSum xs : Int)
  | [] => rfl
  | x :: xs => by
    have e : flagWords (cI x) = flagN x := flag_cast x
    rw [List.map_cons, List.map_cons, List.sum_cons, flagSum_cast xs, flagSum, e]
    exact (Int.natCast_add _ _).symm
theorem allN_mem : ∀ {xs : List Nat}, allN xs = true → ∀ d ∈ xs, d < 64
  | [], _, _, h => by cases h
  | x :: xs, h, d, hd => by
    rw [allN, Bool.and_eq_true] at h
    rcases List.mem_cons.mp hd with rfl | hd
    · exact Nat.blt_eq ▸ h.1
    · exact allN_mem h.2 d hd
theorem val_cast : ∀ (os : List Int) (v : Nat) (ds : List Nat), os.map (· % 64) = ds.map cI → os.foldl (fun v b => v * 64 + b % 64) (v : Int) = ((ds.foldl (fun v d => v * 64 + d) v : Nat) : Int)
  | [], v, [], _ => rfl
  | [], _, _ :: _, h => by cases h
  | _ :: _, _, [], h => by cases h
  | b :: os, v, d :: ds, h => by
    rw [List.map_cons, List.map_cons] at h
    injection h with h1 h2
    rw [List.foldl_cons, List.foldl_cons, h1]
    exact val_cast os (v * 64 + d) ds h2
theorem chkN_ok {p u : Nat} (h : chkN p u = true) : chk p u = true := by
  obtain ⟨own, hown⟩ : ∃ own, own = divN p 64 (2 * (p / 2)) u := ⟨_, rfl⟩
  unfold chkN at h
  rw [← hown] at h
  obtain ⟨N, hN⟩ : ∃ N, N = valN own := ⟨_, rfl⟩
  rw [← hN] at h
  simp only [Bool.and_eq_true] at h
  obtain ⟨⟨⟨⟨⟨⟨⟨⟨k1, k2⟩, k3⟩, k4⟩, k5⟩, k6⟩, k7⟩, k8⟩, k9⟩ := h
  have hq : ((2 : Int) * ((p : Int) / 2)).toNat = 2 * (p / 2) := by (first | decide | lia | omega)
  have hq3 : ((3 : Int) * ((p : Int) / 2)).toNat = 3 * (p / 2) := by (first | decide | lia | omega)
  have hq12 : ((12 : Int) * ((p : Int) / 2)).toNat = 12 * (p / 2) := by (first | decide | lia | omega)
  have hq2' : (2 : Int) * ((p : Int) / 2) = ((2 * (p / 2) : Nat) : Int) := by (first | decide | lia | omega)
  have hq3' : (3 : Int) * ((p : Int) / 2) = ((3 * (p / 2) : Nat) : Int) := by (first | decide | lia | omega)
  have eown : ownOf p u = own.map cI := by
    unfold ownOf
    rw [hq, hown]
    exact divs_cast p 64 _ u
  have hlt := allN_mem k1
  have enum : numOf p u = (N : Int) := by
    unfold numOf vint
    rw [hN]
    refine val_cast _ 0 own ?_
    unfold octOf
    rw [eown, List.map_append, List.map_map, ← List.map_take, ← List.map_drop, List.map_map, List.map_map]
    have e1 : ∀ d ∈ own, (((fun x : Int => x % 64) ∘ fun x => 64 + x) ∘ cI) d = cI d := fun d hd => by
      have := hlt d hd
      show (64 + (d : Int)) % 64 = (d : Int)
      (first | decide | lia | omega)
    have e2 : ∀ d ∈ own, ((fun x : Int => x % 64) ∘ cI) d = cI d := fun d hd => by
      have := hlt d hd
      show (d : Int) % 64 = (d : Int)
      (first | decide | lia | omega)
    rw [List.map_congr_left fun d hd => e1 d (List.mem_of_mem_take hd), List.map_congr_left fun d hd => e2 d (List.mem_of_mem_drop hd), ← List.map_append, List.take_append_drop]
  have hN1 : 1 < N := Nat.blt_eq ▸ k2
  have hN2 : N < 2 ^ 640 := Nat.blt_eq ▸ k3
  have hNQ := Nat.eq_of_beq_eq_true k4
  have eA : (1 : Int) + (u : Int) * (1 - 2 ^ (12 * (p / 2))) = 1 + (-(p : Int)) * (N : Int) := by
    have hp : 1 ≤ 2 ^ (12 * (p / 2)) := Nat.pow_pos (by decide)
    have e : ((u * (2 ^ (12 * (p / 2)) - 1) : Nat) : Int) = ((p * N : Nat) : Int) := by rw [hNQ]
    rw [Int.natCast_mul, Int.natCast_mul, Int.natCast_sub hp, Int.natCast_pow] at e
    have e2 : (1 : Int) - 2 ^ (12 * (p / 2)) = -(((2 : Nat) : Int) ^ (12 * (p / 2)) - ((1 : Nat) : Int)) := by
      show (1 : Int) - 2 ^ (12 * (p / 2)) = -((2 : Int) ^ (12 * (p / 2)) - 1)
      (first | decide | lia | omega)
    rw [e2, Int.mul_neg, e, Int.neg_mul]
  have eD : ((1 : Int) + (-(p : Int)) * (N : Int)) / (N : Int) = -(p : Int) := by
    rw [Int.add_mul_ediv_right _ _ (by (first | decide | lia | omega)), Int.ediv_eq_zero_of_lt (by decide) (by (first | decide | lia | omega)), Int.zero_add]
  have eM : ((1 : Int) + (-(p : Int)) * (N : Int)) % (N : Int) = 1 := by
    rw [Int.add_mul_emod_self_right, Int.emod_eq_of_lt (by decide) (by (first | decide | lia | omega))]
  have hbig : (N : Int) < 2 ^ 640 := by
    have e : ((2 : Int) ^ 640) = ((2 ^ 640 : Nat) : Int) := by rw [Int.natCast_pow]; rfl
    rw [e]
    exact Int.ofNat_lt.mpr hN2
  have hall : ((own.map cI).all fun d => decide (0 ≤ d) && decide (d < 64)) = true := by
    rw [List.all_eq_true]
    intro d hd
    obtain ⟨n, hn, rfl⟩ := List.mem_map.mp hd
    have := hlt n hn
    rw [Bool.and_eq_true, decide_eq_true_eq, decide_eq_true_eq]
    unfold cI
    (first | decide | lia | omega)
  have eword := word_cast N
  have edig : digitsOf 6 (N : Int) = (digsN 64 (lenN 6 N) N).map cI := by
    unfold digitsOf
    rw [len_cast, digs_cast]
  have edig32 : digitsOf 32 (N : Int) = (digsN (2 ^ 32) (lenN 32 N) N).map cI := by
    unfold digitsOf
    rw [len_cast, digs_cast]
  unfold chk
  rw [enum, eown, hq12, eA, eD, eM, hq3, eword, edig, edig32, hq2', hq3', pad_cast, ← List.map_reverse, pad_cast, flagSum_cast]
  simp only [Bool.and_eq_true]
  refine ⟨⟨⟨⟨⟨⟨⟨⟨⟨?_, ?_⟩, hall⟩, ?_⟩, ?_⟩, ?_⟩, ?_⟩, ?_⟩, ?_⟩, k9⟩
  · exact decide_eq_true (by (first | decide | lia | omega))
  · exact decide_eq_true hbig
  · simp
  · rfl
  · exact told_cast _ 4 _ _ _ k5
  · rw [eq_cast k6, beq_iff_eq]
    exact (divs_cast p 16 _ u).symm
  · exact told_cast _ 6 _ _ _ k7
  · rw [eq_cast k8, beq_self_eq_true]
theorem pick_chk {P a len : Nat} (h : ((List.range' a len).all fun u : Nat => chkN P u) = true) {u : Nat} (h1 : a ≤ u) (h2 : u < a + len) : chk (P : Int) (u : Int) = true :=
  chkN_ok (List.all_eq_true.mp h u (List.mem_range'_1.mpr ⟨h1, h2⟩))
theorem chk_11_1 : ((List.range' 1 10).all fun u : Nat => chkN 11 u) = true := by decide +kernel
theorem chk_11 (u : Nat) (h1 : 1 ≤ u) (h2 : u < 11) : chk 11 (u : Int) = true := by
  exact pick_chk chk_11_1 (by (first | decide | lia | omega)) (by (first | decide | lia | omega))
theorem chk_23_1 : ((List.range' 1 16).all fun u : Nat => chkN 23 u) = true := by decide +kernel
theorem chk_23_17 : ((List.range' 17 6).all fun u : Nat => chkN 23 u) = true := by decide +kernel
theorem chk_23 (u : Nat) (h1 : 1 ≤ u) (h2 : u < 23) : chk 23 (u : Int) = true := by
  rcases Nat.lt_or_ge u 17 with h | h
  · exact pick_chk chk_23_1 (by (first | decide | lia | omega)) (by (first | decide | lia | omega))
  exact pick_chk chk_23_17 (by (first | decide | lia | omega)) (by (first | decide | lia | omega))
theorem chk_47_1 : ((List.range' 1 16).all fun u : Nat => chkN 47 u) = true := by decide +kernel
theorem chk_47_17 : ((List.range' 17 16).all fun u : Nat => chkN 47 u) = true := by decide +kernel
theorem chk_47_33 : ((List.range' 33 14).all fun u : Nat => chkN 47 u) = true := by decide +kernel
theorem chk_47 (u : Nat) (h1 : 1 ≤ u) (h2 : u < 47) : chk 47 (u : Int) = true := by
  rcases Nat.lt_or_ge u 17 with h | h
  · exact pick_chk chk_47_1 (by (first | decide | lia | omega)) (by (first | decide | lia | omega))
  rcases Nat.lt_or_ge u 33 with h | h
  · exact pick_chk chk_47_17 (by (first | decide | lia | omega)) (by (first | decide | lia | omega))
  exact pick_chk chk_47_33 (by (first | decide | lia | omega)) (by (first | decide | lia | omega))
theorem chk_59_1 : ((List.range' 1 16).all fun u : Nat => chkN 59 u) = true := by decide +kernel
theorem chk_59_17 : ((List.range' 17 16).all fun u : Nat => chkN 59 u) = true := by decide +kernel
theorem chk_59_33 : ((List.range' 33 16).all fun u : Nat => chkN 59 u) = true := by decide +kernel
theorem chk_59_49 : ((List.range' 49 10).all fun u : Nat => chkN 59 u) = true := by decide +kernel
theorem chk_59 (u : Nat) (h1 : 1 ≤ u) (h2 : u < 59) : chk 59 (u : Int) = true := by
  rcases Nat.lt_or_ge u 17 with h | h
  · exact pick_chk chk_59_1 (by (first | decide | lia | omega)) (by (first | decide | lia | omega))
  rcases Nat.lt_or_ge u 33 with h | h
  · exact pick_chk chk_59_17 (by (first | decide | lia | omega)) (by (first | decide | lia | omega))
  rcases Nat.lt_or_ge u 49 with h | h
  · exact pick_chk chk_59_33 (by (first | decide | lia | omega)) (by (first | decide | lia | omega))
  exact pick_chk chk_59_49 (by (first | decide | lia | omega)) (by (first | decide | lia | omega))
theorem chk_71_1 : ((List.range' 1 16).all fun u : Nat => chkN 71 u) = true := by decide +kernel
theorem chk_71_17 : ((List.range' 17 16).all fun u : Nat => chkN 71 u) = true := by decide +kernel
theorem chk_71_33 : ((List.range' 33 16).all fun u : Nat => chkN 71 u) = true := by decide +kernel
theorem chk_71_49 : ((List.range' 49 16).all fun u : Nat => chkN 71 u) = true := by decide +kernel
theorem chk_71_65 : ((List.range' 65 6).all fun u : Nat => chkN 71 u) = true := by decide +kernel
theorem chk_71 (u : Nat) (h1 : 1 ≤ u) (h2 : u < 71) : chk 71 (u : Int) = true := by
  rcases Nat.lt_or_ge u 17 with h | h
  · exact pick_chk chk_71_1 (by (first | decide | lia | omega)) (by (first | decide | lia | omega))
  rcases Nat.lt_or_ge u 33 with h | h
  · exact pick_chk chk_71_17 (by (first | decide | lia | omega)) (by (first | decide | lia | omega))
  rcases Nat.lt_or_ge u 49 with h | h
  · exact pick_chk chk_71_33 (by (first | decide | lia | omega)) (by (first | decide | lia | omega))
  rcases Nat.lt_or_ge u 65 with h | h
  · exact pick_chk chk_71_49 (by (first | decide | lia | omega)) (by (first | decide | lia | omega))
  exact pick_chk chk_71_65 (by (first | decide | lia | omega)) (by (first | decide | lia | omega))
theorem chk_83_1 : ((List.range' 1 16).all fun u : Nat => chkN 83 u) = true := by decide +kernel
theorem chk_83_17 : ((List.range' 17 16).all fun u : Nat => chkN 83 u) = true := by decide +kernel
theorem chk_83_33 : ((List.range' 33 16).all fun u : Nat => chkN 83 u) = true := by decide +kernel
theorem chk_83_49 : ((List.range' 49 16).all fun u : Nat => chkN 83 u) = true := by decide +kernel
theorem chk_83_65 : ((List.range' 65 16).all fun u : Nat => chkN 83 u) = true := by decide +kernel
theorem chk_83_81 : ((List.range' 81 2).all fun u : Nat => chkN 83 u) = true := by decide +kernel
theorem chk_83 (u : Nat) (h1 : 1 ≤ u) (h2 : u < 83) : chk 83 (u : Int) = true := by
  rcases Nat.lt_or_ge u 17 with h | h
  · exact pick_chk chk_83_1 (by (first | decide | lia | omega)) (by (first | decide | lia | omega))
  rcases Nat.lt_or_ge u 33 with h | h
  · exact pick_chk chk_83_17 (by (first | decide | lia | omega)) (by (first | decide | lia | omega))
  rcases Nat.lt_or_ge u 49 with h | h
  · exact pick_chk chk_83_33 (by (first | decide | lia | omega)) (by (first | decide | lia | omega))
  rcases Nat.lt_or_ge u 65 with h | h
  · exact pick_chk chk_83_49 (by (first | decide | lia | omega)) (by (first | decide | lia | omega))
  rcases Nat.lt_or_ge u 81 with h | h
  · exact pick_chk chk_83_65 (by (first | decide | lia | omega)) (by (first | decide | lia | omega))
  exact pick_chk chk_83_81 (by (first | decide | lia | omega)) (by (first | decide | lia | omega))
theorem chk_107_1 : ((List.range' 1 16).all fun u : Nat => chkN 107 u) = true := by decide +kernel
theorem chk_107_17 : ((List.range' 17 16).all fun u : Nat => chkN 107 u) = true := by decide +kernel
theorem chk_107_33 : ((List.range' 33 16).all fun u : Nat => chkN 107 u) = true := by decide +kernel
theorem chk_107_49 : ((List.range' 49 16).all fun u : Nat => chkN 107 u) = true := by decide +kernel
theorem chk_107_65 : ((List.range' 65 16).all fun u : Nat => chkN 107 u) = true := by decide +kernel
theorem chk_107_81 : ((List.range' 81 16).all fun u : Nat => chkN 107 u) = true := by decide +kernel
theorem chk_107_97 : ((List.range' 97 10).all fun u : Nat => chkN 107 u) = true := by decide +kernel
theorem chk_107 (u : Nat) (h1 : 1 ≤ u) (h2 : u < 107) : chk 107 (u : Int) = true := by
  rcases Nat.lt_or_ge u 17 with h | h
  · exact pick_chk chk_107_1 (by (first | decide | lia | omega)) (by (first | decide | lia | omega))
  rcases Nat.lt_or_ge u 33 with h | h
  · exact pick_chk chk_107_17 (by (first | decide | lia | omega)) (by (first | decide | lia | omega))
  rcases Nat.lt_or_ge u 49 with h | h
  · exact pick_chk chk_107_33 (by (first | decide | lia | omega)) (by (first | decide | lia | omega))
  rcases Nat.lt_or_ge u 65 with h | h
  · exact pick_chk chk_107_49 (by (first | decide | lia | omega)) (by (first | decide | lia | omega))
  rcases Nat.lt_or_ge u 81 with h | h
  · exact pick_chk chk_107_65 (by (first | decide | lia | omega)) (by (first | decide | lia | omega))
  rcases Nat.lt_or_ge u 97 with h | h
  · exact pick_chk chk_107_81 (by (first | decide | lia | omega)) (by (first | decide | lia | omega))
  exact pick_chk chk_107_97 (by (first | decide | lia | omega)) (by (first | decide | lia | omega))
theorem chk_of {p u : Int} (hp : p ∈ primesOf) (h1 : 1 ≤ u) (h2 : u < p) : chk p u = true := by
  obtain ⟨n, rfl⟩ := Int.eq_ofNat_of_zero_le (show 0 ≤ u by (first | decide | lia | omega))
  simp only [primesOf, List.mem_cons, List.not_mem_nil, or_false] at hp
  rcases hp with rfl | rfl | rfl | rfl | rfl | rfl | rfl
  · exact chk_11 n (by (first | decide | lia | omega)) (by (first | decide | lia | omega))
  · exact chk_23 n (by (first | decide | lia | omega)) (by (first | decide | lia | omega))
  · exact chk_47 n (by (first | decide | lia | omega)) (by (first | decide | lia | omega))
  · exact chk_59 n (by (first | decide | lia | omega)) (by (first | decide | lia | omega))
  · exact chk_71 n (by (first | decide | lia | omega)) (by (first | decide | lia | omega))
  · exact chk_83 n (by (first | decide | lia | omega)) (by (first | decide | lia | omega))
  · exact chk_107 n (by (first | decide | lia | omega)) (by (first | decide | lia | omega))
theorem cons_of_len {α : Type} {k : Nat} : ∀ {l : List α}, l.length = k + 1 → ∃ a t, l = a :: t ∧ t.length = k
  | [], h => absurd h (Nat.succ_ne_zero k).symm
  | a :: t, h => ⟨a, t, rfl, Nat.succ.inj h⟩
theorem fits_loose : ∀ {l : Loc} {vs : List (Option Value)}, fits l vs → fits (List.replicate l.length .any) vs
  | [], [], _ => trivial
  | [], _ :: _, f => f.elim
  | _ :: _, [], f => f.elim
  | _ :: _, _ :: _, f => ⟨trivial, fits_loose f.2⟩
theorem fits_two {a b : SV} {l : Loc} : ∀ {vs : List (Option Value)}, fits (a :: b :: l) vs → fits (a :: b :: List.replicate l.length .any) vs
  | [], f => f.elim
  | [_], f => f.2.elim
  | _ :: _ :: _, f => ⟨f.1, f.2.1, fits_loose f.2.2⟩
theorem divs_len (p b : Int) : ∀ (k : Nat) (r : Int), (divs p b k r).length = k
  | 0, _ => rfl
  | k + 1, r => by rw [divs, List.length_cons, divs_len p b k]

theorem f_idT {w : World} (a : Int) (n k dd : Nat) (ha : 0 ≤ a) (hn : 0 < n) (hk : k = (Builtin.Int.intBits a + n - 1) / n) (hz : k ≤ 2 ^ dd) (hd : dd ≤ 20) (hs : n ≤ 2 ^ 20) (hb : k * n ≤ 2 ^ 24) (n₀ : Led) (hT : TabsAre n₀) :
    Fn (GG w) (dd + 2) (.ref aID) [.i a, .i (n : Int)] n₀ (fun v n' => ∃ c n₁, v = .ref c ∧ TabsAre n₁ ∧ n' = (c, LI (digs n k a)) :: n₁) := by
  obtain ⟨na, nb, rfl, hTa, hTb⟩ := hT
  intro X sc ns cl l vs hX hf
  refine ((f_id a n k dd ha hn hk hz hd hs hb na hTa X sc ns cl l vs hX hf).frame nb).mono ?_
  rintro v l' n' ⟨n₁, rfl, rfl, c, na', rfl, hTa', rfl⟩
  exact ⟨rfl, c, na' ++ nb, rfl, ⟨na', nb, rfl, hTa', hTb⟩, rfl⟩
theorem flagWords_le (F : Int) : flagWords F ≤ 32 := by
  unfold flagWords
  split
  · decide
  · unfold bitsOn
    exact Nat.le_trans (List.length_filter_le _ _) (by rw [List.length_range]; exact Nat.le_refl _)
theorem digs_mem (n : Nat) : ∀ (k : Nat) (x : Int), ∀ d ∈ digs n k x, 0 ≤ d ∧ d < 2 ^ n
  | 0, _, _, h => by cases h
  | k + 1, x, d, h => by
    have hp : (0 : Int) < 2 ^ n := Int.pow_pos (by decide)
    rcases List.mem_cons.mp h with rfl | h
    · exact ⟨Int.emod_nonneg _ (Int.ne_of_gt hp), Int.emod_lt_of_pos _ hp⟩
    · exact digs_mem n k _ d h
noncomputable def lawParts (w : World) : Option (Scope × List Stmt) := match (KK w).lookup 102 with
  | some ⟨_, _, .func fd, _⟩ => (match fd.body with
    | .stmts b => some (fd.scope, b)
    | _ => none)
  | _ => none
theorem law_st {w : World} : ∃ sc body, lawParts w = some (sc, body) ∧ ∀ (X : Cx) (S : Addr) (ks : List Int) (n₀ : Led) (cd : Value) (f : Addr),
    Ok (GG w) X 20 sc ["script", "drawn", "upper", "half", "squares", "leaning", "more", "own", "number", "word", "letters", "digits", "sixes", "words"] (cellsFrom (X.L + 1) sc.names []) →
    X.env = envX "law" sc X.L f cd (cellsFrom (X.L + 1) sc.names []) → (∀ n, Has X n S (ks.map SV.i)) → ks.length ≤ 63 → TabsAre n₀ →
    St X (.v (.ref S) :: List.replicate 13 .any) ((X.L + 1, CellAny) :: n₀) body (fun fl _ n' => retv fl = .bool true ∧ TabsAre n') := by
  refine ⟨_, _, rfl, ?_⟩
  dsimp only
  intro X S ks n₀ cd f hX henv hS hz hT
  show St X [.v (.ref S), .any, .any, .any, .any, .any, .any, .any, .any, .any, .any, .any, .any, .any] _ _ _
  refine St.forN hX (xs := ks.take 2 ++ [7]) (EvN.mono_ls (EvN.catNN (as := (ks.map SV.i).take 2) (bs := [.i 7]) (EvN.take (c := S) (by walk_at "ev") (hS _) (by rw [List.length_map]; (first | decide | lia | omega))) (fun c => EvN.list (EvA.cons (by walk_at "ev") EvA.nil)) (by rw [List.length_take]; simp; (first | decide | lia | omega))) (by rw [← List.map_take]; simp)) (J := fun k l n' => ∃ l0 n₁ P, l = .v (.ref S) :: l0 ∧ l0.length = 13 ∧ TabsAre n₁ ∧ (∀ o, P o → CellAny o) ∧ n' = (X.L + 1, P) :: n₁) ?_ ?_ ?_
  · exact ⟨_, _, _, rfl, rfl, hT, fun o h => h, rfl⟩
  · rintro Lc k drawn l n hx ⟨l0, n₁, P, rfl, hlen, hT, hP, rfl⟩
    obtain ⟨a1, l2, rfl, hl2⟩ := cons_of_len hlen
    refine ⟨_, by (with_reducible (repeat (first | exact Put.here | apply Put.there))), ?_⟩
    refine WP.wkL (l' := .v (.ref S) :: .i drawn :: List.replicate 12 .any) ?_ (fun vs f => by
      rw [← hl2]
      exact fits_two f)
    show St X [.v (.ref S), .i drawn, .any, .any, .any, .any, .any, .any, .any, .any, .any, .any, .any, .any] _ _ _
    have hdr : (drawn % 7).toNat < primesOf.length := by
      show _ < 7
      (first | decide | lia | omega)
    obtain ⟨p, hp⟩ : ∃ p, p = primesOf[(drawn % 7).toNat] := ⟨_, rfl⟩
    have hpm : p ∈ primesOf := by rw [hp]; exact List.getElem_mem hdr
    have hpb : 11 ≤ p ∧ p ≤ 107 ∧ p % 2 = 1 := by
      have key : ∀ q ∈ primesOf, 11 ≤ q ∧ q ≤ 107 ∧ q % 2 = 1 := by decide
      exact key p hpm
    refine St.assignX hX (EvS.itemN (k := (drawn % 7).toNat) (a := .i p) (as := primesOf.map SV.i) (EvN.list (EvA.cons (by walk_at "ev") (EvA.cons (by walk_at "ev") (EvA.cons (by walk_at "ev") (EvA.cons (by walk_at "ev") (EvA.cons (by walk_at "ev") (EvA.cons (by walk_at "ev") (EvA.cons (by walk_at "ev") EvA.nil)))))))) (fun c => EvS.as (EvS.md (by walk_at "ev") (by walk_at "ev") (by decide)) (by (first | decide | lia | omega))) (by (first | decide | lia | omega)) (by rw [List.getElem?_map, List.getElem?_eq_getElem hdr, hp]; rfl)) ?_
    rintro v l₁ n₂ ⟨hv, rfl, rfl⟩
    refine ⟨.i p, _, _, hv, Sto.cell rfl rfl hP (by (with_reducible (repeat (first | exact Upd.here | apply Upd.there)))), ?_⟩
    obtain ⟨u, hu⟩ : ∃ u, u = 1 + drawn / 7 % (p - 1) := ⟨_, rfl⟩
    have hu1 : 1 ≤ u ∧ u < p := by
      have h1 := Int.emod_nonneg (drawn / 7) (show p - 1 ≠ 0 by (first | decide | lia | omega))
      have h2 := Int.emod_lt_of_pos (drawn / 7) (show 0 < p - 1 by (first | decide | lia | omega))
      (first | decide | lia | omega)
    refine St.assignS hX (a := .i u) (EvS.as (EvS.add (by walk_at "ev") (EvS.md (EvS.dv (by walk_at "ev") (by walk_at "ev") (by decide) (by decide +kernel)) (EvS.sub (EvS.cell (c := X.L + 1) (a := .i p) hX rfl rfl (by (with_reducible (repeat (first | exact List.mem_cons_self | apply List.mem_cons_of_mem))))) (by walk_at "ev")) (by (first | decide | lia | omega)))) hu.symm) (by (with_reducible (repeat (first | exact Put.here | apply Put.there)))) ?_
    refine St.assignS hX (a := .i (p / 2)) (EvS.dv (EvS.cell (c := X.L + 1) (a := .i p) hX rfl rfl (by (with_reducible (repeat (first | exact List.mem_cons_self | apply List.mem_cons_of_mem))))) (by walk_at "ev") (by decide) (by decide +kernel)) (by (with_reducible (repeat (first | exact Put.here | apply Put.there)))) ?_
    obtain ⟨h, hh⟩ : ∃ h, h = p / 2 := ⟨_, rfl⟩
    rw [← hh]
    have hhb : 5 ≤ h ∧ h ≤ 53 := by (first | decide | lia | omega)
    refine St.assignCompG (clc := [(Str.ofString "prime", X.L + 1)]) (ys := (sqsOf p).map SV.i) hX (by rw [henv]; rfl) (by kernel_rfl) rfl (by kernel_rfl) (by kernel_rfl) (by decide) (by rw [henv]; rfl) (EvN.range2 (j := 1) (k := h + 1) (by (first | ((with_reducible show EvS _ _ _ _ (SV.v (Value.ref _))); exact EvS.glob (by assumption) (by kernel_rfl) (by kernel_rfl)) | exact EvS.blt (by assumption) (by kernel_rfl) (by kernel_rfl) (by kernel_rfl))) (by walk_at "ev") (by walk_at "ev")) (by (with_reducible (repeat (first | exact Put.here | apply Put.there)))) ?_
    · rintro v l₁ n₂ ⟨i, rfl, rfl, rfl⟩
      refine ⟨_, CompIs.mapI (fun r => r * r % p) (Iter.range 1 1 (p / 2).toNat) (WP.iterRange (a := 1) (b := h + 1) (c := 1) (len := (p / 2).toNat) (small1 (by (first | decide | lia | omega)) (by (first | decide | lia | omega)) (by (first | decide | lia | omega)) (by (first | decide | lia | omega))) ?_) (fun _ _ => trivial) (by simp [runs]; (first | decide | lia | omega)) (fun X' hg hX' a ha => ?_), fun c => ?_⟩
      · unfold Builtin.Range.rangeSize
        rw [if_pos (by decide), if_pos (by (first | decide | lia | omega))]
        (first | decide | lia | omega)
      · have hcl := hX'.hc
        exact EvS.md (EvS.mul (by walk_at "ev") (by walk_at "ev") (by
          unfold runs at ha
          obtain ⟨q, hq, rfl⟩ := List.mem_map.mp ha
          have := List.mem_range.mp hq
          (first | decide | lia | omega))) (EvS.cell (c := X.L + 1) (a := .i p) hX' (by kernel_rfl) (by kernel_rfl) (by (with_reducible (repeat (first | exact List.mem_cons_self | apply List.mem_cons_of_mem))))) (by (first | decide | lia | omega))
      have hsq : (sqsOf p).length ≤ 2 ^ 20 := by
        unfold sqsOf runs
        simp; (first | decide | lia | omega)
      refine St.assignS hX (a := .i (leanOf p u)) (Ev.ifexp (EvT.inL (c := c) (ks := sqsOf p) hX (by walk_at "ev") (by walk_at "ev") (Has.mem (by (with_reducible (repeat (first | exact List.mem_cons_self | apply List.mem_cons_of_mem)))))) (fun hin => ?_) (fun hin => ?_)) (by (with_reducible (repeat (first | exact Put.here | apply Put.there)))) ?_
      · refine EvS.as (EvS.fn hX (by (first | ((with_reducible show EvS _ _ _ _ (SV.v (Value.ref _))); exact EvS.glob (by assumption) (by kernel_rfl) (by kernel_rfl)) | exact EvS.blt (by assumption) (by kernel_rfl) (by kernel_rfl) (by kernel_rfl))) (by kernel_rfl) (EvA.cons (EvS.cell (c := X.L + 1) (a := .i p) hX rfl rfl (by (with_reducible (repeat (first | exact List.mem_cons_self | apply List.mem_cons_of_mem))))) EvA.nil) (by (first | decide | lia | omega)) (f_forms p (by (first | decide | lia | omega)) 10 (by show 3 * ((10 : Int) + 1) * (10 + 1) > p; (first | decide | lia | omega)) (by (first | decide | lia | omega)))) ?_
        rw [leanOf, if_pos (of_decide_eq_true hin), hOf]
      · refine EvS.as (EvS.neg (EvS.fn hX (by (first | ((with_reducible show EvS _ _ _ _ (SV.v (Value.ref _))); exact EvS.glob (by assumption) (by kernel_rfl) (by kernel_rfl)) | exact EvS.blt (by assumption) (by kernel_rfl) (by kernel_rfl) (by kernel_rfl))) (by kernel_rfl) (EvA.cons (EvS.cell (c := X.L + 1) (a := .i p) hX rfl rfl (by (with_reducible (repeat (first | exact List.mem_cons_self | apply List.mem_cons_of_mem))))) EvA.nil) (by (first | decide | lia | omega)) (f_forms p (by (first | decide | lia | omega)) 10 (by show 3 * ((10 : Int) + 1) * (10 + 1) > p; (first | decide | lia | omega)) (by (first | decide | lia | omega))))) ?_
        rw [leanOf, if_neg (of_decide_eq_false hin), hOf]
      refine St.assignS hX (a := .i (moreOf p)) (Ev.ifexp (EvT.inL (c := c) (ks := sqsOf p) hX (by walk_at "ev") (by walk_at "ev") (Has.mem (by (with_reducible (repeat (first | exact List.mem_cons_self | apply List.mem_cons_of_mem)))))) (fun hin => ?_) (fun hin => ?_)) (by (with_reducible (repeat (first | exact Put.here | apply Put.there)))) ?_
      · refine EvS.as EvS.int ?_
        rw [moreOf, if_pos (of_decide_eq_true hin)]
      · refine EvS.as EvS.int ?_
        rw [moreOf, if_neg (of_decide_eq_false hin)]
      have hK := chk_of hpm hu1.1 hu1.2
      unfold chk at hK
      simp only [Bool.and_eq_true, decide_eq_true_eq, beq_iff_eq] at hK
      obtain ⟨⟨⟨⟨⟨⟨⟨⟨⟨k1, k2⟩, k3⟩, k4⟩, k5⟩, k6⟩, k7⟩, k8⟩, k9⟩, k10⟩ := hK
      have hpn : p.natAbs < 2 ^ 9000 := Nat.lt_of_lt_of_le (show p.natAbs < 2 ^ 10 by (first | decide | lia | omega)) (Nat.pow_le_pow_right (by decide) (by decide))
      refine St.assignN hX (EvN.fn hX (by (first | ((with_reducible show EvS _ _ _ _ (SV.v (Value.ref _))); exact EvS.glob (by assumption) (by kernel_rfl) (by kernel_rfl)) | exact EvS.blt (by assumption) (by kernel_rfl) (by kernel_rfl) (by kernel_rfl))) (by kernel_rfl) (EvA.cons (by walk_at "ev") (EvA.cons (EvS.cell (c := X.L + 1) (a := .i p) hX rfl rfl (by (with_reducible (repeat (first | exact List.mem_cons_self | apply List.mem_cons_of_mem))))) (EvA.cons (by walk_at "ev") (EvA.cons (a := .i (((2 * (p / 2)).toNat : Nat) : Int)) (EvS.as (EvS.mul (by walk_at "ev") (by walk_at "ev") (by decide)) (by (first | decide | lia | omega))) EvA.nil)))) (by (first | decide | lia | omega)) (f_divided u p 64 (2 * (p / 2)).toNat (by (first | decide | lia | omega)) hpn (by decide) (by (first | decide | lia | omega)))) (by (with_reducible (repeat (first | exact Put.here | apply Put.there)))) fun co => ?_
      have hol : (ownOf p u).length = (2 * (p / 2)).toNat := divs_len _ _ _ _
      show St X _ ((co, LI (ownOf p u)) :: _) _ _
      have hol2 : (ownOf p u).length ≤ 200 := by (first | decide | lia | omega)
      have hown : ∀ d ∈ ownOf p u, 0 ≤ d ∧ d < 64 := fun d hd => by
        have := List.all_eq_true.mp k3 d hd
        simpa using this
      have hov : octOf p u ≠ [] ∧ (∀ b ∈ octOf p u, 0 ≤ b) ∧ (∀ j b, (octOf p u)[j]? = some b → (b / 64 % 2 = 1 ↔ j + 1 < (octOf p u).length)) ∧ (octOf p u).length ≤ 1000 := by
        unfold octOf
        have hne : 0 < (ownOf p u).length := by (first | decide | lia | omega)
        generalize ownOf p u = ow at *
        have e : (ow.drop (ow.length - 1)) = [ow[ow.length - 1]] := by
          rw [List.drop_eq_getElem_cons (by (first | decide | lia | omega)), List.drop_of_length_le (by (first | decide | lia | omega))]
        rw [e]
        have hlt : ((ow.take (ow.length - 1)).map (64 + ·)).length = ow.length - 1 := by rw [List.length_map, List.length_take]; (first | decide | lia | omega)
        have hlast := hown _ (List.getElem_mem (show ow.length - 1 < ow.length by (first | decide | lia | omega)))
        refine ⟨by simp, ?_, ?_, by rw [List.length_append, hlt]; simp; (first | decide | lia | omega)⟩
        · intro b hb
          rcases List.mem_append.mp hb with hb | hb
          · obtain ⟨d, hd, rfl⟩ := List.mem_map.mp hb
            have := hown d (List.mem_of_mem_take hd)
            (first | decide | lia | omega)
          · rw [List.mem_singleton.mp hb]; (first | decide | lia | omega)
        · intro j b hj
          rw [List.length_append, hlt, List.length_singleton]
          by_cases hjl : j < ow.length - 1
          · rw [List.getElem?_append_left (by rw [hlt]; exact hjl), List.getElem?_map, List.getElem?_take_of_lt hjl, List.getElem?_eq_getElem (by (first | decide | lia | omega))] at hj
            have := hown _ (List.getElem_mem (show j < ow.length by (first | decide | lia | omega)))
            cases hj
            dsimp only at this ⊢
            (first | decide | lia | omega)
          · rw [List.getElem?_append_right (by rw [hlt]; (first | decide | lia | omega)), hlt] at hj
            have h0 : j - (ow.length - 1) = 0 := by
              rcases Nat.eq_zero_or_pos (j - (ow.length - 1)) with q | q
              · exact q
              · rw [List.getElem?_eq_none (by simp; (first | decide | lia | omega))] at hj
                cases hj
            rw [h0] at hj
            cases hj
            (first | decide | lia | omega)
      refine St.assignS hX (a := .i (numOf p u)) (EvS.fnIter (os := (octOf p u).map SV.i) hX (by (first | ((with_reducible show EvS _ _ _ _ (SV.v (Value.ref _))); exact EvS.glob (by assumption) (by kernel_rfl) (by kernel_rfl)) | exact EvS.blt (by assumption) (by kernel_rfl) (by kernel_rfl) (by kernel_rfl))) (by kernel_rfl) (by (first | ((with_reducible show EvS _ _ _ _ (SV.v (Value.ref _))); exact EvS.glob (by assumption) (by kernel_rfl) (by kernel_rfl)) | exact EvS.blt (by assumption) (by kernel_rfl) (by kernel_rfl) (by kernel_rfl))) (EvN.mono_ls (bs := (octOf p u).map SV.i) (EvN.catNN (as := (((ownOf p u).take ((ownOf p u).length - 1)).map (64 + ·)).map SV.i) (bs := ((ownOf p u).drop ((ownOf p u).length - 1)).map SV.i)
        (EvN.compG (clc := []) hX (by rw [henv]; rfl) (by kernel_rfl) rfl (by kernel_rfl) (by kernel_rfl) (by decide) (EvN.mono_ls (bs := ((ownOf p u).take ((ownOf p u).length - 1)).map SV.i) (EvN.init (c := co) (as := (ownOf p u).map SV.i) (by walk_at "ev") (Has.mem (by (with_reducible (repeat (first | exact List.mem_cons_self | apply List.mem_cons_of_mem))))) (by rw [List.length_map]; (first | decide | lia | omega))) (by rw [List.length_map, ← List.map_take])) ?_)
        (fun c9 => EvN.mono_ls (bs := ((ownOf p u).drop ((ownOf p u).length - 1)).map SV.i) (EvN.last (c := co) (as := (ownOf p u).map SV.i) (by walk_at "ev") (Has.mem (by (with_reducible (repeat (first | exact List.mem_cons_self | apply List.mem_cons_of_mem))))) (by rw [List.length_map]; (first | decide | lia | omega))) (by rw [List.length_map, ← List.map_drop])) (by simp; (first | decide | lia | omega))) (by rw [octOf, List.map_append])) (by (first | decide | lia | omega)) (fun i c => ⟨_, f_varint (octOf p u) hov.1 hov.2.1 hov.2.2.1 hov.2.2.2, fun v n' h => h.1⟩)) (by (with_reducible (repeat (first | exact Put.here | apply Put.there)))) ?_
      · rintro v l₁ n₂ ⟨a, rfl, rfl, rfl⟩
        refine ⟨_, Led.le_skip _ (Led.le_refl _), CompIs.mapI (64 + ·) (Iter.list a (((ownOf p u).take ((ownOf p u).length - 1)).map SV.i)) (WP.iterList (Has.mem (.head _))) (fun X' hg => Has.mem (.head _)) (by rw [List.length_take]; (first | decide | lia | omega)) (fun X' hg hX' b hb => by walk_at "ev")⟩
      obtain ⟨N, hN⟩ : ∃ N, N = numOf p u := ⟨_, rfl⟩
      rw [← hN] at k1 k2 k4 k5 k6 k7 k8 k9 k10 ⊢
      obtain ⟨Q, hQ⟩ : ∃ Q : Int, Q = 2 ^ (12 * (p / 2)).toNat := ⟨_, rfl⟩
      rw [← hQ] at k4 k5
      have hNb : Builtin.Int.intBits N ≤ 640 := bits_le (by (first | decide | lia | omega)) k2
      have hNb1 : 0 < Builtin.Int.intBits N := by rw [intBits_eq, if_neg (by (first | decide | lia | omega))]; (first | decide | lia | omega)
      have hQ1 : 1 ≤ Q := by
        have : (0 : Int) < Q := by rw [hQ]; exact Int.pow_pos (by decide)
        (first | decide | lia | omega)
      have hQ2 : Q ≤ 2 ^ 640 := by rw [hQ]; exact ipow_le (by (first | decide | lia | omega))
      have hA : Builtin.Int.intBits (1 + u * (1 - Q)) ≤ 1000 := by
        refine bits_of_natAbs ?_
        have e1 : u * (1 - Q) = -(u * (Q - 1)) := by rw [← Int.mul_neg]; congr 1; (first | decide | lia | omega)
        have e2 : 0 ≤ u * (Q - 1) := Int.mul_nonneg (by (first | decide | lia | omega)) (by (first | decide | lia | omega))
        have e3 : u * (Q - 1) ≤ 107 * Q := by
          refine Int.le_trans (Int.mul_le_mul_of_nonneg_right (show u ≤ 107 by (first | decide | lia | omega)) (by (first | decide | lia | omega))) (by (first | decide | lia | omega))
        have e4 : 107 * Q < 2 ^ 1000 := by
          have h7 : (107 : Int) * Q ≤ 2 ^ 7 * 2 ^ 640 := Int.le_trans (Int.mul_le_mul_of_nonneg_right (show (107 : Int) ≤ 2 ^ 7 by decide) (by (first | decide | lia | omega))) (Int.mul_le_mul_of_nonneg_left hQ2 (by decide))
          rw [← Int.pow_add] at h7
          refine Int.lt_of_le_of_lt h7 ?_
          have e : ∀ k : Nat, (2 : Int) ^ k = ((2 ^ k : Nat) : Int) := fun k => by simp
          rw [e, e]
          exact Int.ofNat_lt.mpr (Nat.pow_lt_pow_right (by decide) (by decide))
        have e5 : ((2 ^ 1000 : Nat) : Int) = 2 ^ 1000 := by simp
        have e6 : (((1 + u * (1 - Q)).natAbs : Nat) : Int) < ((2 ^ 1000 : Nat) : Int) := by
          rw [e5, e1]
          generalize u * (Q - 1) = z at *
          generalize (2 : Int) ^ 1000 = W at *
          (first | decide | lia | omega)
        exact Int.ofNat_lt.mp e6
      refine St.iteW (S := fun b l' n' => ∃ c1 c2 nT Pa Pb, b = false ∧ TabsAre nT ∧ l' = [.v (.ref S), .i drawn, .i u, .i h, .v (.ref c), .i (leanOf p u), .i (moreOf p), .v (.ref co), .i N, .any, .any, .any, .any, .any] ∧ n' = (c2, Pb) :: (((c1, Pa) :: nT) ++ [(co, LI (ownOf p u)), (c, LI (sqsOf p)), (Lc, LI (ks.take 2 ++ [7])), (X.L + 1, CellIs (.i p))]))
        (WP.isCmp (Ev.fn (m := [(co, LI (ownOf p u)), (c, LI (sqsOf p)), (Lc, LI (ks.take 2 ++ [7])), (X.L + 1, CellIs (.i p))]) hX (by (first | ((with_reducible show EvS _ _ _ _ (SV.v (Value.ref _))); exact EvS.glob (by assumption) (by kernel_rfl) (by kernel_rfl)) | exact EvS.blt (by assumption) (by kernel_rfl) (by kernel_rfl) (by kernel_rfl))) (by kernel_rfl) (EvA.cons (a := .i (1 + u * (1 - Q))) (EvS.add (by walk_at "ev") (EvS.mul (by walk_at "ev") (EvS.sub (by walk_at "ev") (EvS.as (EvS.pow (x := 2) (k := (12 * (p / 2)).toNat) (j := 2) (by decide) (by (first | decide | lia | omega)) (by walk_at "ev") (EvS.as (EvS.mul (by walk_at "ev") (by walk_at "ev") (by decide)) (by (first | decide | lia | omega)))) hQ.symm)) (by (first | decide | lia | omega)))) (EvA.cons (by walk_at "ev") EvA.nil)) (by (first | decide | lia | omega)) (f_dm (1 + u * (1 - Q)) N 10 k1 (by (first | decide | lia | omega)) (Nat.div_le_of_le_mul (by (first | decide | lia | omega))) (by decide) n₁ hT) ?_) ?_) ?_
      · exact List.perm_append_comm
      · rintro v l₁ n₂ ⟨rfl, n₃, rfl, c1, nT, rfl, hT', rfl⟩
        refine ⟨_, EvN.tuple (as := [.i (-p), .i 1]) (EvA.cons (EvS.neg (EvS.cell (c := X.L + 1) (a := .i p) hX rfl rfl (List.mem_append_right _ (by (with_reducible (repeat (first | exact List.mem_cons_self | apply List.mem_cons_of_mem))))))) (EvA.cons (by walk_at "ev") EvA.nil)) (hz := by simp), ?_⟩
        rintro v l₂ n₃ ⟨c2, rfl, rfl, rfl⟩
        refine (WP.neT (js := [(1 + u * (1 - Q)) / N, (1 + u * (1 - Q)) % N]) (ks := [-p, 1]) hX (.tail _ (.head _)) (.head _)).mono ?_
        rintro v l₃ n₄ ⟨rfl, rfl, rfl⟩
        exact ⟨_, rfl, c1, c2, nT, _, _, by rw [k4, k5]; simp, hT', rfl, rfl⟩
      · rintro bb l' n' ⟨c1, c2, nT, Pa, Pb, rfl, hT', rfl, rfl⟩
        refine St.nilT ?_
        refine WP.pre (n := (co, LI (ownOf p u)) :: (c, LI (sqsOf p)) :: (Lc, LI (ks.take 2 ++ [7])) :: (X.L + 1, CellIs (.i p)) :: nT) ?_ ?_
        rotate_left
        · rw [List.cons_append]
          refine Led.le_skip _ (Led.le_skip _ (Led.le_of_perm ?_))
          exact List.perm_append_comm (l₁ := [(co, LI (ownOf p u)), (c, LI (sqsOf p)), (Lc, LI (ks.take 2 ++ [7])), (X.L + 1, CellIs (.i p))]) (l₂ := nT)
        have hN16 : (-N).natAbs < 16 ^ 170 := by
          have e1 : N.natAbs < 2 ^ 640 := natAbs_lt (by (first | decide | lia | omega)) k2
          have e2 : (16 : Nat) ^ 170 = 2 ^ (4 * 170) := by rw [Nat.pow_mul]
          rw [e2, Int.natAbs_neg]
          exact Nat.lt_of_lt_of_le e1 (Nat.pow_le_pow_right (by decide) (by decide))
        have hNa : (((-N).natAbs : Nat) : Int) = N := by (first | decide | lia | omega)
        have hwl : (wordOf N).length ≤ 170 := by
          unfold wordOf
          rw [List.length_map, List.length_map, List.length_reverse]
          exact idig_len _ _ _
        refine St.assignCompG (clc := []) (ys := (wordOf N).map SV.i) hX (by rw [henv]; rfl) (by kernel_rfl) rfl (by kernel_rfl) (by kernel_rfl) (by decide) (by rw [henv]; rfl) (Ev.fn (n' := []) hX (by (first | ((with_reducible show EvS _ _ _ _ (SV.v (Value.ref _))); exact EvS.glob (by assumption) (by kernel_rfl) (by kernel_rfl)) | exact EvS.blt (by assumption) (by kernel_rfl) (by kernel_rfl) (by kernel_rfl))) (by kernel_rfl) (EvA.cons (EvS.neg (by walk_at "ev")) EvA.nil) (by (first | decide | lia | omega)) (f_ap (-N) 170 hN16 (by decide)) (List.Perm.refl _)) (by (with_reducible (repeat (first | exact Put.here | apply Put.there)))) ?_
        rintro v l₁ n₂ ⟨rfl, n₃, rfl, uu, ⟨t, hv⟩, rfl, hb⟩
        cases hv
        rw [hNa] at hb
        have ew : wordOf N = (KBw.bInts uu).map (· - 65) := by rw [wordOf, hb]
        have hul : (KBw.bInts uu).length ≤ 170 := by rw [← List.length_map (f := fun x : Int => x - 65), ← ew]; exact hwl
        refine ⟨_, by rw [ew]; exact CompIs.mapI (· - 65) (Iter.bytes uu) WP.iterY (fun _ _ => trivial) (by (first | decide | lia | omega)) (fun X' hg hX' b hb => by walk_at "ev"), fun cw => ?_⟩
        rw [List.nil_append]
        refine St.assignN hX (EvN.mono_ls (bs := (padTo (3 * (p / 2)) (wordOf N)).map SV.i) (EvN.catNS (c' := cw) (as := List.replicate (3 * (p / 2) - (wordOf N).length).toNat (.i 0)) (bs := (wordOf N).map SV.i) (EvN.rep1 (k := 3 * (p / 2) - (wordOf N).length) (EvN.list (EvA.cons (by walk_at "ev") EvA.nil)) (fun c9 => EvS.as (EvS.sub (EvS.mul (by walk_at "ev") (by walk_at "ev") (by decide)) (EvS.as (EvS.len (c := cw) (as := (wordOf N).map SV.i) (by (first | ((with_reducible show EvS _ _ _ _ (SV.v (Value.ref _))); exact EvS.glob (by assumption) (by kernel_rfl) (by kernel_rfl)) | exact EvS.blt (by assumption) (by kernel_rfl) (by kernel_rfl) (by kernel_rfl))) (by walk_at "ev") (Has.mem (by (with_reducible (repeat (first | exact List.mem_cons_self | apply List.mem_cons_of_mem))))) (by rw [List.length_map]; (first | decide | lia | omega))) (by rw [List.length_map]))) (by rw [hh])) (by (first | decide | lia | omega)) (by (first | decide | lia | omega))) (fun c9 => by walk_at "ev") (Has.mem (by (with_reducible (repeat (first | exact List.mem_cons_self | apply List.mem_cons_of_mem))))) (by rw [List.length_replicate, List.length_map]; (first | decide | lia | omega))) (by rw [padTo, List.map_append, List.map_replicate])) (by (with_reducible (repeat (first | exact Put.here | apply Put.there)))) fun cl => ?_
        have hll : (padTo (3 * (p / 2)) (wordOf N)).length ≤ 1000 := by
          unfold padTo
          rw [List.length_append, List.length_replicate]; (first | decide | lia | omega)
        have hmore : (moreOf p).natAbs < 2 ^ 20 := by
          unfold moreOf
          split <;> decide
        refine St.ite (EvT.not (EvT.boolv (EvS.fnP hX (by (first | ((with_reducible show EvS _ _ _ _ (SV.v (Value.ref _))); exact EvS.glob (by assumption) (by kernel_rfl) (by kernel_rfl)) | exact EvS.blt (by assumption) (by kernel_rfl) (by kernel_rfl) (by kernel_rfl))) (by kernel_rfl) (EvA.cons (by walk_at "ev") (EvA.cons (a := .i ((4 : Nat) : Int)) (by walk_at "ev") (EvA.cons (by walk_at "ev") (EvA.cons (by walk_at "ev") (EvA.cons (by walk_at "ev") EvA.nil))))) (by (first | decide | lia | omega)) (f_told (padTo (3 * (p / 2)) (wordOf N)) 4 h (leanOf p u) (moreOf p) cl (by decide) (by (first | decide | lia | omega)) hmore) (List.Perm.refl _)))) (fun hb => ?_) (fun _ => ?_)
        · rw [hh, k6] at hb
          cases hb
        refine St.nilT ?_
        refine St.ite (b := false) (EvT.cmpG (bl := false) (EvS.loc (a := .v (.ref cl)) hX (by (with_reducible (repeat (first | exact Look.here | apply Look.there)))) rfl) (fun v l₁ n₂ h9 => ?_)) (fun hb => by cases hb) (fun _ => ?_)
        · obtain ⟨h1, rfl, rfl⟩ := h9
          cases h1
          refine ⟨_, EvN.fn hX (by (first | ((with_reducible show EvS _ _ _ _ (SV.v (Value.ref _))); exact EvS.glob (by assumption) (by kernel_rfl) (by kernel_rfl)) | exact EvS.blt (by assumption) (by kernel_rfl) (by kernel_rfl) (by kernel_rfl))) (by kernel_rfl) (EvA.cons (by walk_at "ev") (EvA.cons (EvS.cell (c := X.L + 1) (a := .i p) hX rfl rfl (by (with_reducible (repeat (first | exact List.mem_cons_self | apply List.mem_cons_of_mem))))) (EvA.cons (by walk_at "ev") (EvA.cons (a := .i (((3 * (p / 2)).toNat : Nat) : Int)) (EvS.as (EvS.mul (by walk_at "ev") (by walk_at "ev") (by decide)) (by (first | decide | lia | omega))) EvA.nil)))) (by (first | decide | lia | omega)) (f_divided u p 16 (3 * (p / 2)).toNat (by (first | decide | lia | omega)) hpn (by decide) (by (first | decide | lia | omega))), ?_⟩
          rintro v l₂ n₃ ⟨c9, rfl, rfl, rfl⟩
          refine (WP.neL (js := padTo (3 * (p / 2)) (wordOf N)) (ks := divs p 16 (3 * (p / 2)).toNat u) hX (Has.mem (by (with_reducible (repeat (first | exact List.mem_cons_self | apply List.mem_cons_of_mem))))) (Has.mem (by (with_reducible (repeat (first | exact List.mem_cons_self | apply List.mem_cons_of_mem)))))).mono ?_
          rintro v l₃ n₄ ⟨rfl, rfl, rfl⟩
          exact ⟨by rw [k7]; simp, rfl, Led.le_skip _ (Led.le_refl _)⟩
        refine St.nilT ?_
        refine WP.pre (n := (co, LI (ownOf p u)) :: (Lc, LI (ks.take 2 ++ [7])) :: (X.L + 1, CellIs (.i p)) :: nT) ?_ (by (repeat (first | exact Led.nil_le _ | exact Led.le_refl _ | (apply Pick.le; focus ((with_reducible (repeat (first | exact Pick.here | apply Pick.there))); done)) | apply Led.le_skip)))
        obtain ⟨k6n, hk6n⟩ : ∃ k6n, k6n = (Builtin.Int.intBits N + 6 - 1) / 6 := ⟨_, rfl⟩
        refine St.assign hX (Ev.revG (S := fun n' => ∃ nT' cd, TabsAre nT' ∧ n' = (cd, LI ((digs 6 k6n N))) :: nT' ++ [(co, LI (ownOf p u)), (Lc, LI (ks.take 2 ++ [7])), (X.L + 1, CellIs (.i p))]) (as := (digs 6 k6n N).map SV.i) (Ev.fn (m := [(co, LI (ownOf p u)), (Lc, LI (ks.take 2 ++ [7])), (X.L + 1, CellIs (.i p))]) hX (by (first | ((with_reducible show EvS _ _ _ _ (SV.v (Value.ref _))); exact EvS.glob (by assumption) (by kernel_rfl) (by kernel_rfl)) | exact EvS.blt (by assumption) (by kernel_rfl) (by kernel_rfl) (by kernel_rfl))) (by kernel_rfl) (EvA.cons (by walk_at "ev") (EvA.cons (a := .i ((6 : Nat) : Int)) (by walk_at "ev") EvA.nil)) (by (first | decide | lia | omega)) (f_idT N 6 k6n 7 (by (first | decide | lia | omega)) (by decide) hk6n (by (first | decide | lia | omega)) (by decide) (by decide) (by (first | decide | lia | omega)) nT hT') ?_) (fun v l₁ n₂ h9 => ?_) (by rw [List.length_map, digs_len]; (first | decide | lia | omega))) (fun v l₁ n₂ h9 => ?_)
        · exact List.perm_append_comm (l₁ := nT) (l₂ := [(co, LI (ownOf p u)), (Lc, LI (ks.take 2 ++ [7])), (X.L + 1, CellIs (.i p))])
        · obtain ⟨rfl, n₃, rfl, cd, nT', rfl, hT'', rfl⟩ := h9
          exact ⟨cd, rfl, rfl, Has.mem (.head _), nT', cd, hT'', rfl⟩
        obtain ⟨cg, n₃, rfl, rfl, ⟨nT', cd, hT'', rfl⟩, rfl⟩ := h9
        refine ⟨.v (.ref cg), _, rfl, by (with_reducible (repeat (first | exact Put.here | apply Put.there))), ?_⟩
        have edig : ((digs 6 k6n N).map SV.i).reverse = ((digitsOf 6 N).reverse).map SV.i := by rw [digitsOf, ← hk6n, List.map_reverse]
        rw [edig]
        refine WP.pre (n := (cg, LI (digitsOf 6 N).reverse) :: (co, LI (ownOf p u)) :: (Lc, LI (ks.take 2 ++ [7])) :: (X.L + 1, CellIs (.i p)) :: nT') ?_ (Led.le_cons _ (Led.le_skip _ (Led.le_of_perm (List.perm_append_comm (l₁ := [(co, LI (ownOf p u)), (Lc, LI (ks.take 2 ++ [7])), (X.L + 1, CellIs (.i p))]) (l₂ := nT')))))
        have hdl : (digitsOf 6 N).reverse.length ≤ 200 := by
          rw [List.length_reverse, digitsOf, digs_len]; (first | decide | lia | omega)
        refine St.assignN hX (EvN.mono_ls (bs := (padTo (2 * (p / 2)) (digitsOf 6 N).reverse).map SV.i) (EvN.catNS (c' := cg) (as := List.replicate (2 * (p / 2) - (digitsOf 6 N).reverse.length).toNat (.i 0)) (bs := (digitsOf 6 N).reverse.map SV.i) (EvN.rep1 (k := 2 * (p / 2) - (digitsOf 6 N).reverse.length) (EvN.list (EvA.cons (by walk_at "ev") EvA.nil)) (fun c9 => EvS.as (EvS.sub (EvS.mul (by walk_at "ev") (by walk_at "ev") (by decide)) (EvS.as (EvS.len (c := cg) (as := (digitsOf 6 N).reverse.map SV.i) (by (first | ((with_reducible show EvS _ _ _ _ (SV.v (Value.ref _))); exact EvS.glob (by assumption) (by kernel_rfl) (by kernel_rfl)) | exact EvS.blt (by assumption) (by kernel_rfl) (by kernel_rfl) (by kernel_rfl))) (by walk_at "ev") (Has.mem (by (with_reducible (repeat (first | exact List.mem_cons_self | apply List.mem_cons_of_mem))))) (by rw [List.length_map]; (first | decide | lia | omega))) (by rw [List.length_map]))) (by rw [hh])) (by (first | decide | lia | omega)) (by (first | decide | lia | omega))) (fun c9 => by walk_at "ev") (Has.mem (by (with_reducible (repeat (first | exact List.mem_cons_self | apply List.mem_cons_of_mem))))) (by rw [List.length_replicate, List.length_map]; (first | decide | lia | omega))) (by rw [padTo, List.map_append, List.map_replicate])) (by (with_reducible (repeat (first | exact Put.here | apply Put.there)))) fun cs => ?_
        have hsl : (padTo (2 * (p / 2)) (digitsOf 6 N).reverse).length ≤ 1000 := by
          unfold padTo
          rw [List.length_append, List.length_replicate]; (first | decide | lia | omega)
        refine St.ite (EvT.or2 (c := false) (EvT.not (EvT.boolv (EvS.fnP hX (by (first | ((with_reducible show EvS _ _ _ _ (SV.v (Value.ref _))); exact EvS.glob (by assumption) (by kernel_rfl) (by kernel_rfl)) | exact EvS.blt (by assumption) (by kernel_rfl) (by kernel_rfl) (by kernel_rfl))) (by kernel_rfl) (EvA.cons (by walk_at "ev") (EvA.cons (a := .i ((6 : Nat) : Int)) (by walk_at "ev") (EvA.cons (by walk_at "ev") (EvA.cons (by walk_at "ev") (EvA.cons (by walk_at "ev") EvA.nil))))) (by (first | decide | lia | omega)) (f_told (padTo (2 * (p / 2)) (digitsOf 6 N).reverse) 6 h (leanOf p u) (moreOf p) cs (by decide) (by (first | decide | lia | omega)) hmore) (List.Perm.refl _)))) (fun _ => EvT.cmpG (bl := false) (EvS.loc (a := .v (.ref cs)) hX (by (with_reducible (repeat (first | exact Look.here | apply Look.there)))) rfl) (fun v l₁ n₂ h9 => ?_))) (fun hb => ?_) (fun _ => ?_)
        · obtain ⟨h1, rfl, rfl⟩ := h9
          cases h1
          refine ⟨_, EvS.loc (a := .v (.ref co)) hX (by (with_reducible (repeat (first | exact Look.here | apply Look.there)))) rfl, ?_⟩
          rintro v l₂ n₃ ⟨hv, rfl, rfl⟩
          cases hv
          refine (WP.neL (js := padTo (2 * (p / 2)) (digitsOf 6 N).reverse) (ks := ownOf p u) hX (Has.mem (by (with_reducible (repeat (first | exact List.mem_cons_self | apply List.mem_cons_of_mem))))) (Has.mem (by (with_reducible (repeat (first | exact List.mem_cons_self | apply List.mem_cons_of_mem)))))).mono ?_
          rintro v l₃ n₄ ⟨rfl, rfl, rfl⟩
          exact ⟨by rw [k9]; simp, rfl, Led.le_refl _⟩
        · rw [hh, k8] at hb
          cases hb
        refine St.nilT ?_
        obtain ⟨kw, hkw⟩ : ∃ kw, kw = (Builtin.Int.intBits N + 32 - 1) / 32 := ⟨_, rfl⟩
        refine WP.pre (n := (Lc, LI (ks.take 2 ++ [7])) :: (X.L + 1, CellIs (.i p)) :: nT') ?_ (by (repeat (first | exact Led.nil_le _ | exact Led.le_refl _ | (apply Pick.le; focus ((with_reducible (repeat (first | exact Pick.here | apply Pick.there))); done)) | apply Led.le_skip)))
        refine St.assignCompG (clc := []) (ys := ((digitsOf 32 N).map fun x => ((flagWords x - 1 + 1 : Nat) : Int)).map SV.i) hX (by rw [henv]; rfl) (by kernel_rfl) rfl (by kernel_rfl) (by kernel_rfl) (by decide) (by rw [henv]; rfl) (Ev.fn (m := [(Lc, LI (ks.take 2 ++ [7])), (X.L + 1, CellIs (.i p))]) hX (by (first | ((with_reducible show EvS _ _ _ _ (SV.v (Value.ref _))); exact EvS.glob (by assumption) (by kernel_rfl) (by kernel_rfl)) | exact EvS.blt (by assumption) (by kernel_rfl) (by kernel_rfl) (by kernel_rfl))) (by kernel_rfl) (EvA.cons (by walk_at "ev") (EvA.cons (a := .i ((32 : Nat) : Int)) (by walk_at "ev") EvA.nil)) (by (first | decide | lia | omega)) (f_idT N 32 kw 5 (by (first | decide | lia | omega)) (by decide) hkw (by (first | decide | lia | omega)) (by decide) (by decide) (by (first | decide | lia | omega)) nT' hT'') ?_) (by (with_reducible (repeat (first | exact Put.here | apply Put.there)))) ?_
        · exact List.perm_append_comm (l₁ := nT') (l₂ := [(Lc, LI (ks.take 2 ++ [7])), (X.L + 1, CellIs (.i p))])
        rintro v l₁ n₂ ⟨rfl, n₃, rfl, cd2, nT2, rfl, hT2, rfl⟩
        have ed : digitsOf 32 N = digs 32 kw N := by rw [digitsOf, ← hkw]
        rw [ed]
        refine ⟨_, CompIs.mapI (fun x => ((flagWords x - 1 + 1 : Nat) : Int)) (Iter.list cd2 ((digs 32 kw N).map SV.i)) (WP.iterList (Has.mem (.head _))) (fun X' hg => Has.mem (.head _)) (by rw [digs_len]; (first | decide | lia | omega)) (fun X' hg hX' b hb => ?_), fun cw2 => ?_⟩
        · obtain ⟨b0, b1⟩ := digs_mem 32 kw N b hb
          refine EvS.as (EvS.len1 (as := List.replicate (flagWords b - 1 + 1) .any) (by (first | ((with_reducible show EvS _ _ _ _ (SV.v (Value.ref _))); exact EvS.glob (by assumption) (by kernel_rfl) (by kernel_rfl)) | exact EvS.blt (by assumption) (by kernel_rfl) (by kernel_rfl) (by kernel_rfl))) (Ev.split (k := flagWords b - 1) (Ev.fn (n' := []) hX' (by (first | ((with_reducible show EvS _ _ _ _ (SV.v (Value.ref _))); exact EvS.glob (by assumption) (by kernel_rfl) (by kernel_rfl)) | exact EvS.blt (by assumption) (by kernel_rfl) (by kernel_rfl) (by kernel_rfl))) (by kernel_rfl) (EvA.cons (by walk_at "ev") EvA.nil) (by (first | decide | lia | omega)) (f_flags b b0 b1) (List.Perm.refl _)) ?_) ?_) ?_
          · rintro v l₂ n₃ ⟨rfl, n₄, rfl, x, t, rfl, hS, hx, rfl⟩
            exact ⟨x, t, rfl, hS, by (first | decide | lia | omega), rfl, rfl⟩
          · rw [List.length_replicate]
            have := flagWords_le b
            (first | decide | lia | omega)
          · rw [List.length_replicate]
        refine St.ite (EvT.ne (EvS.sum (c := cw2) (ks := (digs 32 kw N).map fun x => ((flagWords x - 1 + 1 : Nat) : Int)) hX (by (first | ((with_reducible show EvS _ _ _ _ (SV.v (Value.ref _))); exact EvS.glob (by assumption) (by kernel_rfl) (by kernel_rfl)) | exact EvS.blt (by assumption) (by kernel_rfl) (by kernel_rfl) (by kernel_rfl))) (by walk_at "ev") (Has.mem (by (with_reducible (repeat (first | exact List.mem_cons_self | apply List.mem_cons_of_mem)))))) (EvS.sub (EvS.mul (by walk_at "ev") (by walk_at "ev") (by decide)) (y := if moreOf p == 1 then 6 * leanOf p u else 0) (Ev.ifexp (EvT.eq (by walk_at "ev") (by walk_at "ev")) (fun hm => EvS.as (EvS.mul (by walk_at "ev") (by walk_at "ev") (by decide)) (by rw [if_pos hm])) (fun hm => EvS.as EvS.int (by rw [hm]; rfl))))) (fun hb => ?_) (fun _ => ?_)
        · rw [ed] at k10
          rw [hh, k10] at hb
          simp at hb
        refine St.nilT (St.nilLe ⟨(Lc, LI (ks.take 2 ++ [7])) :: (X.L + 1, CellIs (.i p)) :: nT2, ?_, (X.L + 1, CellIs (.i p)) :: nT2, rfl, _, nT2, CellIs (.i p), rfl, rfl, hT2, fun o ho => ?_, rfl⟩)
        · rw [List.cons_append]
          exact Led.le_skip _ (Led.le_skip _ (Led.le_of_perm (List.perm_append_comm (l₁ := [(Lc, LI (ks.take 2 ++ [7])), (X.L + 1, CellIs (.i p))]) (l₂ := nT2))))
        · obtain ⟨v, hv, _⟩ := ho
          exact ⟨_, hv⟩
  · rintro l n ⟨l0, n₁, P, rfl, hlen, hT, hP, rfl⟩
    refine St.nilT ?_
    refine St.retS EvS.bool ?_
    rintro v ⟨rfl⟩
    exact ⟨n₁, Led.le_skip _ (Led.le_refl _), rfl, hT⟩
theorem tab_of_led {X : Cx} {l : Loc} {pos : Pos} {qual : Str} {P : Addr} {n m : Led} {h : Heap} (hT : TabIs pos qual P n) (G : Good X l m h) (hs : ∀ p ∈ n, p ∈ m) : GrownAt P h := by
  rcases hT with rfl | ⟨c', rfl⟩
  · obtain ⟨o, ho, hp⟩ := G.get (hs _ (.head _))
    cases hp
    exact ⟨_, ho⟩
  · obtain ⟨o, ho, hp⟩ := G.get (hs _ (.head _))
    cases hp
    exact ⟨_, ho⟩
set_option maxHeartbeats 8000000
/-- the law's frame, in the layer's words -/
theorem law_end {w : World} {A : Around} {s : Shared} {g : Heap} {L S f : Addr} {cd : Value} {vs : List Value} {ks : List Int} {oc : Obj} {m : Str → Option Value} {R : Flow → Shared → Prop} {E : Value → Shared → Prop} {env : Env} {sc : Scope} {body : List Stmt} {p : Program} {loose : List Str} {mean : ExcName → Option Value} {mg mb : Str → Option Value}
    (hb : lawParts w = some (sc, body)) (hL : g.IsList S vs.toArray) (hI : IntsAre vs ks) (hz : ks.length ≤ 63) (F : Fr g L s.heap m) (hm : m = mp ["script", "drawn", "upper", "half", "squares", "leaning", "more", "own", "number", "word", "letters", "digits", "sixes", "words"] (some (.ref S) :: List.replicate 13 none))
    (N : News g L s.heap [(L + 1, oc), (44, tabObj #[]), (37, tabObj #[])]) (hoc : CellAny oc) (K : (KK w).In g) (T : Top p loose mean mg mb g)
    (henv : env = envX "law" sc L f cd (cellsFrom (L + 1) sc.names [])) (hA : A.depth ≤ 900) (hu : A.units ≤ 100) (hh : A.handled = none)
    (hq : ∀ fl h' tk', retv fl = .bool true → (∀ b o, g.get? b = some o → h'.get? b = some o) → GrownAt 44 h' → GrownAt 37 h' → R fl { s with heap := h', toks := tk' }) :
    wpAny (model PySem.Challenge.rw_uq0005_01.row.prog w) A (execs body env) R E s := by
  obtain ⟨sc', body', e9, h9⟩ := law_st (w := w)
  rw [hb] at e9
  cases e9
  have nod : (["script", "drawn", "upper", "half", "squares", "leaning", "more", "own", "number", "word", "letters", "digits", "sixes", "words"] : List Str).Nodup := by decide
  have hsc : (match lawParts w with | some (sc, _) => decide (sc.kind = .function) && (["script", "drawn", "upper", "half", "squares", "leaning", "more", "own", "number", "word", "letters", "digits", "sixes", "words"] : List Str).all (fun x => decide (sc.names.lookup x = some .local)) | none => false) = true := by kernel_rfl
  rw [hb] at hsc
  simp only [Bool.and_eq_true, decide_eq_true_eq] at hsc
  obtain ⟨hk, hloc⟩ := hsc
  have okX : Ok (GG w) ⟨PySem.Challenge.rw_uq0005_01.row.prog, w, A, g, L, env, ["script", "drawn", "upper", "half", "squares", "leaning", "more", "own", "number", "word", "letters", "digits", "sixes", "words"]⟩ 20 sc ["script", "drawn", "upper", "half", "squares", "leaning", "more", "own", "number", "word", "letters", "digits", "sixes", "words"] (cellsFrom (L + 1) sc.names []) :=
    { hp := rfl, hw := rfl
      room := by show A.depth + 20 < recursionLimit; have : recursionLimit = 1000 := rfl; (first | decide | lia | omega)
      units := by show A.units + 10 * 20 + 80 < cLine; have : cLine = 9900 := rfl; (first | decide | lia | omega)
      kin := K, top := ⟨_, _, _, _, _, T⟩, hh := hh, hs := by show env.scope = sc; rw [henv], hn := rfl, hc := by show env.cells = _; rw [henv], kd := hk
      lo := by show env.locals = L; rw [henv]
      gl := by show env.globals = _; rw [henv]
      bl := by show env.builtins = _; rw [henv]
      nod := nod
      loc := fun x hx => of_decide_eq_true (List.all_eq_true.mp hloc x hx)
      dbg := by decide }
  have G : Good ⟨PySem.Challenge.rw_uq0005_01.row.prog, w, A, g, L, env, ["script", "drawn", "upper", "half", "squares", "leaning", "more", "own", "number", "word", "letters", "digits", "sixes", "words"]⟩ (.v (.ref S) :: List.replicate 13 .any) ((L + 1, CellAny) :: ([(37, Tab0)] ++ [(44, Tab0)])) s.heap := by
    have n1 := N _ (.head _)
    have n2 := N _ (.tail _ (.head _))
    have n3 := N _ (.tail _ (.tail _ (.head _)))
    have l1 : 44 ≠ L + 1 := fun q => by
      have h1 := n1.1
      have h2 := n2.1
      dsimp only at h1 h2
      rw [← q, h2] at h1
      cases h1
      obtain ⟨v, hv⟩ := hoc
      cases hv
    have l2 : 37 ≠ L + 1 := fun q => by
      have h1 := n1.1
      have h2 := n3.1
      dsimp only at h1 h2
      rw [← q, h2] at h1
      cases h1
      obtain ⟨v, hv⟩ := hoc
      cases hv
    refine ⟨⟨some (.ref S) :: List.replicate 13 none, ⟨rfl, fits_any 13⟩, hm ▸ F⟩, fun p hp => ?_, ?_⟩
    · rcases List.mem_cons.mp hp with rfl | hp
      · exact ⟨⟨_, n1.1, hoc⟩, n1.2⟩
      · rcases List.mem_cons.mp hp with rfl | hp
        · exact ⟨⟨_, n3.1, rfl⟩, n3.2⟩
        · rw [List.mem_singleton.mp hp]
          exact ⟨⟨_, n2.1, rfl⟩, n2.2⟩
    · show [L + 1, 37, 44].Nodup
      simp
      exact ⟨fun q => l2 (by subst q; rfl), fun q => l1 (by subst q; rfl)⟩
  refine wp_of_st _ _ _ (fun fl _ n' => retv fl = .bool true ∧ TabsAre n') rfl rfl rfl rfl G (h9 _ S ks _ cd f okX henv (fun n => Has.base hL (fits_of_ints hI)) hz ⟨[(37, Tab0)], [(44, Tab0)], rfl, .inl rfl, .inl rfl⟩) ?_
  rintro fl l' n' h' tk' ⟨hr, na, nb, rfl, hTa, hTb⟩ G'
  refine hq fl h' tk' hr (fun b o e => ?_) (tab_of_led hTb G' fun p hp => List.mem_append_right _ hp) (tab_of_led hTa G' fun p hp => List.mem_append_left _ hp)
  obtain ⟨⟨us, fu, F'⟩, _⟩ := G'
  exact F'.keep b o e
theorem law_good {cl : Str → Option Addr} {mean : ExcName → Option Value} {xs : List PyData} {s₁ s' : Shared} {v : Value} (hv : v = .bool true) (hk : ∀ b o, s₁.heap.get? b = some o → s'.heap.get? b = some o) (hos : s'.os = s₁.os) (hg : s'.gens = #[]) :
    GoodW PySem.Challenge.rw_uq0005_01.row.claim cl mean [ofPy (.list xs)] s₁ (.ok (.ret v)) s' := by
  subst hv
  refine ⟨.inl ⟨.bool true, .bool true, [], rfl, fun cls => raisesW_false (fun ct h => by cases h) cls, .bool true, postW_of (X := true) rfl (by first | (simp [PySem.Challenge.rw_uq0005_01, OpenLaw.row, WTm.value, same]; done) | (show WTm.value _ (.eq .res (.lit (.bool true))) _ = _; wtm_val)) rfl, unshared_nil⟩, hk, hos, hg⟩
set_option maxHeartbeats 8000000
theorem PW_try : PySem.Challenge.rw_uq0005_01.Holds := Mine.hd (by
  k_go0
  all_goals try k_fold
  rename News _ _ _ _ => N9
  rename Fr _ _ _ _ => F9
  rename Frag.In _ _ => X9
  rename Top _ _ _ _ _ _ => T9
  rename IntsAre _ _ => I9
  rename Heap.IsList (ghostOf _ _) _ _ => L9
  rename CellsAre _ _ _ => C9
  obtain ⟨oc9, hc9, dc9⟩ := CellsAre.one C9
  cases hc9
  refine law_end (hb := rfl) (hL := L9) (hI := I9) (hz := by (first | decide | lia | omega)) (F := F9) (hm := ?hm) (N := N9) (hoc := ⟨_, dc9⟩) (K := X9) (T := T9) (henv := rfl) (hA := Nat.le_of_ble_eq_true rfl) (hu := Nat.le_of_ble_eq_true rfl) (hh := rfl) (hq := ?hq)
  · exact bindL_mp _ ["script"] ["drawn", "upper", "half", "squares", "leaning", "more", "own", "number", "word", "letters", "digits", "sixes", "words"] [_] (by decide) rfl (fun x hx => by rw [List.mem_singleton.mp hx]; rfl)
  · intro fl h' tk' hr hk g1 g2
    refine ⟨law_good ?_ hk rfl ?_, g1, g2, trivial⟩
    · cases fl with
      | ret v => exact hr
      | _ => cases hr
    · assumption)
end Mine
theorem PySem.Challenge.cw_uq0005_01_holds : PySem.Challenge.rw_uq0005_01.Holds :=
  Mine.PW_try
