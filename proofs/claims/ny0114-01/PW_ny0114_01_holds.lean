import PyProof.Rows.All
import Wide.All
import OpenK.AllK
import Wide.FinOn
import PySem.Challenge.RW_ny0114_01
set_option Elab.async false
set_option maxRecDepth 100000
set_option pp.deepTerms false
set_option genSizeOf false
namespace Mine
open PySem PySem.W PyProof.Rows PySem.Calls
/-! text TopA -/
set_option maxRecDepth 100000 in
set_option maxHeartbeats 8000000 in
open_top hd for PySem.Challenge.rw_ny0114_01
/-! text Fw1 -/
/-! A ledger of assertions: what is known of each object that the code at hand owns; the base stays as it is. -/
noncomputable abbrev Asn := Obj → Prop
noncomputable abbrev Led := List (Addr × Asn)
noncomputable def At (h : Heap) (a : Addr) (P : Asn) : Prop := ∃ o, h.get? a = some o ∧ P o
noncomputable def Sub (B B' : Heap) : Prop := ∀ b o, B.get? b = some o → B'.get? b = some o
theorem At.sub {h h' : Heap} {a : Addr} {P : Asn} (k : Sub h h') (x : At h a P) : At h' a P := let ⟨o, e, p⟩ := x; ⟨o, k _ _ e, p⟩
theorem At.imp {h : Heap} {a : Addr} {P P' : Asn} (x : At h a P) (k : ∀ o, P o → P' o) : At h a P' := let ⟨o, e, p⟩ := x; ⟨o, e, k _ p⟩
theorem Sub.rfl {h : Heap} : Sub h h := fun _ _ e => e
theorem Sub.trans {h h' h'' : Heap} (x : Sub h h') (y : Sub h' h'') : Sub h h'' := fun b o e => y b o (x b o e)
theorem Sub.push {h : Heap} (o : Obj) : Sub h (h.push o) := fun _ _ e => Heap.get?_push_of_some o e

structure St (B : Heap) (os : OsState) (s : Shared) (l : Led) : Prop where
  keep : Sub B s.heap
  has : ∀ p ∈ l, At s.heap p.1 p.2
  fresh : ∀ p ∈ l, B.get? p.1 = none
  nd : (l.map (·.1)).Nodup
  gens : s.gens = #[]
  os : s.os = os

section
variable {B : Heap} {os : OsState} {s : Shared} {l lc lf : Led} {a : Addr} {P P' : Asn} {t : Nat} {d : Drawn} {h' : Heap}

theorem St.tok (S : St B os s l) : St B os ⟨s.heap, s.gens, s.drawn, t, s.os⟩ l := ⟨S.keep, S.has, S.fresh, S.nd, S.gens, S.os⟩
theorem St.grow (S : St B os s l) (k : Sub s.heap h') : St B os ⟨h', s.gens, d, t, s.os⟩ l :=
  ⟨S.keep.trans k, fun p hp => (S.has p hp).sub k, S.fresh, S.nd, S.gens, S.os⟩
theorem St.none_of (S : St B os s l) (e : s.heap.get? a = none) : B.get? a = none := by
  cases q : B.get? a with
  | none => rfl
  | some o => rw [S.keep _ _ q] at e; cases e
theorem St.new (S : St B os s l) (k : Sub s.heap h') (e : s.heap.get? a = none) (x : At h' a P) : St B os ⟨h', s.gens, d, t, s.os⟩ ((a, P) :: l) :=
  ⟨S.keep.trans k, fun p hp => by
    rcases List.mem_cons.mp hp with rfl | hp
    · exact x
    · exact (S.has p hp).sub k,
   fun p hp => by
    rcases List.mem_cons.mp hp with rfl | hp
    · exact S.none_of e
    · exact S.fresh p hp,
   List.nodup_cons.mpr ⟨fun hm => by
    obtain ⟨p, hp, q⟩ := List.mem_map.mp hm
    obtain ⟨o, ho, _⟩ := S.has p hp
    rw [show p.1 = a from q] at ho
    rw [ho] at e; exact absurd e (by simp), S.nd⟩, S.gens, S.os⟩
theorem size_none (h : Heap) : h.get? h.objs.size = none := by
  cases q : h.get? h.objs.size with
  | none => rfl
  | some o => exact absurd (Heap.lt_size q) (Nat.lt_irrefl _)
theorem St.push (S : St B os s l) (o : Obj) (hf : o.isFreed = false) (hp : P o) : St B os ⟨s.heap.push o, s.gens, s.drawn, t, s.os⟩ ((s.heap.objs.size, P) :: l) :=
  S.new (Sub.push o) (size_none _) ⟨o, Heap.get?_push_size _ hf, hp⟩

/-- the ledger with a hole at a -/
inductive Hole (a : Addr) (P : Asn) : (Asn → Led) → Led → Prop
  | here {r : Led} : Hole a P (fun Q => (a, Q) :: r) ((a, P) :: r)
  | there {p : Addr × Asn} {F : Asn → Led} {r : Led} : Hole a P F r → Hole a P (fun Q => p :: F Q) (p :: r)
theorem Hole.split {F : Asn → Led} (H : Hole a P F l) : ∃ pre post, l = pre ++ (a, P) :: post ∧ ∀ Q, F Q = pre ++ (a, Q) :: post := by
  induction H with
  | here => exact ⟨[], _, rfl, fun _ => rfl⟩
  | there _ ih =>
    obtain ⟨pre, post, e, f⟩ := ih
    exact ⟨_ :: pre, post, by rw [e]; rfl, fun Q => by show _ :: _ = _; rw [f Q]; rfl⟩
theorem Hole.mem {F : Asn → Led} (H : Hole a P F l) : (a, P) ∈ l := by
  obtain ⟨pre, post, rfl, _⟩ := H.split; simp
theorem St.rd (S : St B os s l) (m : (a, P) ∈ l) : At s.heap a P := S.has _ m
theorem St.sameBut {F : Asn → Led} (S : St B os s l) (H : Hole a P F l) (hs : Heap.SameBut a s.heap h') (x : At h' a P') : St B os ⟨h', s.gens, d, t, s.os⟩ (F P') := by
  obtain ⟨pre, post, rfl, f⟩ := H.split
  rw [f P']
  have nd := S.nd
  simp only [List.map_append, List.map_cons, List.nodup_append, List.nodup_cons, List.mem_cons, ne_eq] at nd
  have ha : B.get? a = none := S.fresh (a, P) (by simp)
  refine ⟨fun b o e => ?_, fun p hp => ?_, fun p hp => ?_, ?_, S.gens, S.os⟩
  · have hne : b ≠ a := fun q => by rw [q, ha] at e; cases e
    show h'.get? b = some o
    rw [hs.2 b hne]; exact S.keep b o e
  · have other : ∀ q ∈ pre ++ post, q.1 ≠ a := by
      intro q hq e
      rcases List.mem_append.mp hq with h | h
      · exact nd.2.2 q.1 (List.mem_map_of_mem h) a (.inl rfl) e
      · exact nd.2.1.1 (e ▸ List.mem_map_of_mem h)
    have old : ∀ q ∈ pre ++ post, At h' q.1 q.2 := by
      intro q hq
      obtain ⟨o, ho, hq2⟩ := S.has q (by
        rcases List.mem_append.mp hq with h | h
        · exact List.mem_append_left _ h
        · exact List.mem_append_right _ (.tail _ h))
      exact ⟨o, (hs.2 _ (other q hq)).trans ho, hq2⟩
    rcases List.mem_append.mp hp with h | h
    · exact old p (List.mem_append_left _ h)
    · rcases List.mem_cons.mp h with rfl | h
      · exact x
      · exact old p (List.mem_append_right _ h)
  · rcases List.mem_append.mp hp with h | h
    · exact S.fresh p (List.mem_append_left _ h)
    · rcases List.mem_cons.mp h with rfl | h
      · exact ha
      · exact S.fresh p (List.mem_append_right _ (.tail _ h))
  · have := S.nd
    simp only [List.map_append, List.map_cons] at this ⊢
    exact this
theorem St.upd {F : Asn → Led} (S : St B os s l) (H : Hole a P F l) (f : Obj → Obj) (x : ∀ o, P o → (f o).isFreed = false ∧ P' (f o)) : St B os ⟨s.heap.update a f, s.gens, d, t, s.os⟩ (F P') := by
  obtain ⟨o, ho, hp⟩ := S.rd H.mem
  exact S.sameBut H (Heap.SameBut.update _ _ _) ⟨_, Heap.get?_update_self f ho (x o hp).1, (x o hp).2⟩
theorem St.perm {l' : Led} (S : St B os s l) (p : l.Perm l') : St B os s l' :=
  ⟨S.keep, fun q hq => S.has q (p.mem_iff.mpr hq), fun q hq => S.fresh q (p.mem_iff.mpr hq), (p.map _).nodup_iff.mp S.nd, S.gens, S.os⟩
theorem St.sub {l' : Led} (S : St B os s l) (p : l'.Sublist l) : St B os s l' :=
  ⟨S.keep, fun q hq => S.has q (p.mem hq), fun q hq => S.fresh q (p.mem hq), (p.map _).nodup S.nd, S.gens, S.os⟩
theorem St.imp {F : Asn → Led} (S : St B os s l) (H : Hole a P F l) (k : ∀ o, P o → P' o) : St B os s (F P') := by
  have := S.sameBut (d := s.drawn) (t := s.toks) H (Heap.SameBut.refl _ _) ((S.rd H.mem).imp k)
  exact this

inductive Take (p : Addr × Asn) : Led → Led → Prop
  | here {r : Led} : Take p (p :: r) r
  | there {q : Addr × Asn} {r r' : Led} : Take p r r' → Take p (q :: r) (q :: r')
theorem Take.perm {p : Addr × Asn} {r r' : Led} (x : Take p r r') : r.Perm (p :: r') := by
  induction x with
  | here => exact .refl _
  | there _ ih => exact (List.Perm.cons _ ih).trans (.swap _ _ _)
inductive Pick : Led → Led → Led → Prop
  | nil {l : Led} : Pick l [] l
  | cons {p : Addr × Asn} {l l' lc lf : Led} : Take p l l' → Pick l' lc lf → Pick l (p :: lc) lf
theorem Pick.perm (x : Pick l lc lf) : l.Perm (lc ++ lf) := by
  induction x with
  | nil => exact .refl _
  | cons t _ ih => exact t.perm.trans (.cons _ ih)
theorem St.pick (S : St B os s l) (x : Pick l lc lf) : St B os s lc := (S.perm x.perm).sub (List.sublist_append_left _ _)

theorem frame {α : Type} {M : Model} {A : Around} {T : Sem α} {Q : α → Shared → Prop} {E : Value → Shared → Prop} (S₀ : St B os s l) (pk : Pick l lc lf)
    (spec : ∀ B', Sub B B' → (∀ p ∈ lf, At B' p.1 p.2) → St B' os s lc → wpAny M A T (fun v s' => ∃ l', St B' os s' l' ∧ (St B os s' (l' ++ lf) → Q v s')) E s) : wpAny M A T Q E s := by
  have S := S₀.perm pk.perm
  have nd := S.nd
  simp only [List.map_append, List.nodup_append, ne_eq] at nd
  have hB : Sub B (hideAll s.heap (lc.map (·.1))) := fun b o e => hideAll_get _ (S.keep b o e) fun q => by
    obtain ⟨p, hp, rfl⟩ := List.mem_map.mp q
    rw [S.fresh p (List.mem_append_left _ hp)] at e; cases e
  have hf : ∀ p ∈ lf, At (hideAll s.heap (lc.map (·.1))) p.1 p.2 := fun p hp => by
    obtain ⟨o, ho, h⟩ := S.has p (List.mem_append_right _ hp)
    exact ⟨o, hideAll_get _ ho fun q => nd.2.2 p.1 q p.1 (List.mem_map_of_mem hp) rfl, h⟩
  refine wpAny_mono (spec _ hB hf ⟨fun b o e => of_hideAll _ e, fun p hp => S.has p (List.mem_append_left _ hp), fun p hp => hideAll_none _ (List.mem_map_of_mem hp), nd.1, S.gens, S.os⟩) (fun v s' x => ?_) fun _ _ e => e
  obtain ⟨l', S', k⟩ := x
  refine k ⟨hB.trans S'.keep, fun p hp => ?_, fun p hp => ?_, ?_, S'.gens, S'.os⟩
  · rcases List.mem_append.mp hp with h | h
    · exact S'.has p h
    · exact (hf p h).sub S'.keep
  · rcases List.mem_append.mp hp with h | h
    · cases q : B.get? p.1 with
      | none => rfl
      | some o => have := S'.fresh p h; rw [hB _ _ q] at this; cases this
    · exact S.fresh p (List.mem_append_right _ h)
  · simp only [List.map_append, List.nodup_append, ne_eq]
    refine ⟨S'.nd, nd.2.1, fun a ha b hb q => ?_⟩
    obtain ⟨p, hp, rfl⟩ := List.mem_map.mp ha
    obtain ⟨r, hr, rfl⟩ := List.mem_map.mp hb
    obtain ⟨o, ho, _⟩ := hf r hr
    have := S'.fresh p hp
    rw [q, ho] at this; cases this
end

/-! the assertions -/
noncomputable def IsL (vs : List Value) : Asn := fun o => ∃ n, o = { cls := .type "list", dict := none, data := .seq vs.toArray n, slots := #[] }
noncomputable def IsT (vs : List Value) : Asn := fun o => ∃ n, o = { cls := .type "tuple", dict := none, data := .seq vs.toArray n, slots := #[] }
noncomputable def NsA (lo : List (Str × Value)) : Asn := fun o => (lo.map (·.1)).Nodup ∧ ∃ es ep, o.data = .dict es ep ∧ StrKeys es ∧ ∀ p ∈ lo, nsFind es p.1 = some p.2
noncomputable def CellA (v : Option Value) : Asn := fun o => o.data = .cell v

theorem At.list {h : Heap} {a : Addr} {vs : List Value} (x : At h a (IsL vs)) : h.IsList a vs.toArray := let ⟨o, e, n, q⟩ := x; ⟨o, e, by rw [q], n, by rw [q]⟩
theorem At.tup {h : Heap} {a : Addr} {vs : List Value} (x : At h a (IsT vs)) : IsTup h a vs.toArray := let ⟨o, e, n, q⟩ := x; ⟨o, e, by rw [q], n, by rw [q]⟩
theorem At.ns {h : Heap} {a : Addr} {lo : List (Str × Value)} (x : At h a (NsA lo)) : ∃ m, h.Ns a m ∧ (∀ p ∈ lo, m p.1 = some p.2) ∧ (lo.map (·.1)).Nodup := by
  obtain ⟨o, e, nd, es, ep, hd, hk, hl⟩ := x; exact ⟨fun x => nsFind es x, ⟨o, es, ep, e, hd, hk, fun _ => rfl⟩, hl, nd⟩
theorem NsA.at {h : Heap} {a : Addr} {m : Str → Option Value} {lo : List (Str × Value)} (n : h.Ns a m) (hl : ∀ p ∈ lo, m p.1 = some p.2) (nd : (lo.map (·.1)).Nodup) : At h a (NsA lo) := by
  obtain ⟨o, es, ep, e, hd, hk, hm⟩ := n; exact ⟨o, e, nd, es, ep, hd, hk, fun p hp => (hm _).trans (hl p hp)⟩
theorem At.cell {h : Heap} {a : Addr} {v : Option Value} (x : At h a (CellA v)) : h.IsCell a v := x

/-- a name set anew in its place -/
inductive Put (x : Str) (v : Value) : List (Str × Value) → List (Str × Value) → Prop
  | here {u : Value} {r : List (Str × Value)} : Put x v ((x, u) :: r) ((x, v) :: r)
  | there {p : Str × Value} {r r' : List (Str × Value)} : Put x v r r' → Put x v (p :: r) (p :: r')
theorem Put.names {x : Str} {v : Value} {r r' : List (Str × Value)} (h : Put x v r r') : r'.map (·.1) = r.map (·.1) := by
  induction h with
  | here => rfl
  | there _ ih => simp [ih]
theorem Put.mem {x : Str} {v : Value} {r r' : List (Str × Value)} (h : Put x v r r') (nd : (r.map (·.1)).Nodup) : ∀ p ∈ r', (p.1 = x ∧ p.2 = v) ∨ (p.1 ≠ x ∧ p ∈ r) := by
  induction h with
  | here =>
    intro p hp
    rw [List.map_cons, List.nodup_cons] at nd
    rcases List.mem_cons.mp hp with rfl | hp
    · exact .inl ⟨rfl, rfl⟩
    · exact .inr ⟨fun e => nd.1 (by rw [← e]; exact List.mem_map_of_mem (f := (·.1)) hp), .tail _ hp⟩
  | there h ih =>
    intro p hp
    rw [List.map_cons, List.nodup_cons] at nd
    rcases List.mem_cons.mp hp with rfl | hp
    · refine .inr ⟨fun e => nd.1 ?_, .head _⟩
      rw [e, ← h.names]
      have : ∀ {r r' : List (Str × Value)}, Put x v r r' → x ∈ r'.map (·.1) := by
        intro r r' h
        induction h with
        | here => simp
        | there _ ih => simp at ih ⊢; exact .inr ih
      exact this h
    · rcases ih nd.2 p hp with h | h
      · exact .inl h
      · exact .inr ⟨h.1, .tail _ h.2⟩

/-! the frame's names -/
structure EO (env : Env) (L : Addr) (lc : List Str) (cs : List (Str × Addr)) : Prop where
  loc : env.locals = L
  kind : env.scope.kind = .function
  glob : env.globals = mainGlobals
  blt : env.builtins = builtinsNs
  inter : interactive env = false
  locs : ∀ x ∈ lc, env.kindOf x = some .local ∧ (x == ("__debug__" : Str)) = false
  cells : ∀ p ∈ cs, (env.kindOf p.1 = some .cell ∨ env.kindOf p.1 = some .free) ∧ env.cells.lookup p.1 = some p.2 ∧ (p.1 == ("__debug__" : Str)) = false ∧ (p.1 == ("__classdict__" : Str)) = false

noncomputable abbrev KK (w : World) : Frag := hd.heap_39 w.params
structure KB (w : World) (B : Heap) : Prop where
  k : (KK w).In B
  top : ∃ mg mb, B.Ns mainGlobals mg ∧ B.Ns builtinsNs mb ∧ ∀ x : Str, x ≠ "__name__" → mb x = bootBuiltins x
  lim : B.NoLimit
theorem KB.sub {w : World} {B B' : Heap} (x : KB w B) (k : Sub B B') : KB w B' :=
  ⟨x.k.keeps k, let ⟨mg, mb, g, b, e⟩ := x.top; ⟨mg, mb, g.keeps k, b.keeps k, e⟩, x.lim.keeps k⟩

/-- what a name of the program or of the interpreter stands for -/
noncomputable def Glo (w : World) (env : Env) (x : Str) (v : Value) : Prop :=
  env.kindOf x = some .globalImplicit ∧ (x == ("__debug__" : Str)) = false ∧ x ≠ ("__name__" : Str) ∧ (nsIn (KK w) mainGlobals x = some (some v) ∨ (nsIn (KK w) mainGlobals x = some none ∧ bootBuiltins x = some v))

noncomputable def Glos (w : World) (env : Env) (gl : List (Str × Value)) : Prop := ∀ p ∈ gl, Glo w env p.1 p.2

structure Cx (A : Around) (k : Nat) : Prop where
  handled : A.handled = none
  depth : A.depth + 2 * k < recursionLimit
  units : A.units + 20 * k + 50 < cLine

section
variable {prog : Program} {w : World} {A : Around} {E : Value → Shared → Prop} {s : Shared} {B : Heap} {os : OsState} {l : Led} {env : Env} {L : Addr} {lc : List Str} {cs : List (Str × Addr)} {lo : List (Str × Value)}
  {x : Str} {v : Value} {pos : Pos} {Q : Value → Shared → Prop}

theorem n_loc (O : EO env L lc cs) (S : St B os s l) (mL : (L, NsA lo) ∈ l) (hx : x ∈ lc) (hv : (x, v) ∈ lo) (h : Q v s) : wpAny (model prog w) A (eval (.Name x pos) env) Q E s := by
  obtain ⟨m, hn, hl, _⟩ := (S.rd mL).ns
  exact wpAny_Name (wpAny_loadName_local O.kind (O.locs x hx).1 (O.loc ▸ hn) (hl _ hv) h) (O.locs x hx).2
theorem n_cell {c : Addr} (O : EO env L lc cs) (S : St B os s l) (hx : (x, c) ∈ cs) (hv : (c, CellA (some v)) ∈ l) (h : Q v s) : wpAny (model prog w) A (eval (.Name x pos) env) Q E s := by
  obtain ⟨hk, hc, hd, hcd⟩ := O.cells _ hx
  rcases hk with hk | hk
  · exact wpAny_Name (wpAny_loadName_cell O.kind hk hc (S.rd hv).cell h) hd
  · exact wpAny_Name (wpAny_loadName_free O.kind hk hc (S.rd hv).cell h hcd) hd
theorem n_glob {gl : List (Str × Value)} (O : EO env L lc cs) (kb : KB w B) (S : St B os s l) (G : Glos w env gl) (m : (x, v) ∈ gl) (h : Q v s) : wpAny (model prog w) A (eval (.Name x pos) env) Q E s := by
  obtain ⟨hk, hd, hn, e⟩ := G _ m
  obtain ⟨mg, mb, g, b, bb⟩ := kb.top
  rcases e with e | ⟨e, e2⟩
  · exact Name_function_global O.kind hk (loadGlobal_global (O.glob ▸ g.keeps S.keep) (mg_of kb.k g e) h) hd
  · exact Name_function_global O.kind hk (loadGlobal_builtin (O.glob ▸ g.keeps S.keep) (mg_none_of kb.k g e) (O.blt ▸ b.keeps S.keep) ((bb x hn).trans e2) h) hd

theorem n_store {F : Asn → Led} {lo' : List (Str × Value)} {Q : Unit → Shared → Prop} (O : EO env L lc cs) (S : St B os s l) (H : Hole L (NsA lo) F l) (hx : x ∈ lc) (p : Put x v lo lo' ∨ (x ∉ lo.map (·.1) ∧ lo' = (x, v) :: lo))
    (h : ∀ s', St B os s' (F (NsA lo')) → Q () s') : wpAny (model prog w) A (storeName env x v) Q E s := by
  obtain ⟨m, hn, hl, nd⟩ := (S.rd H.mem).ns
  have hL := O.loc
  subst hL
  refine wpAny_storeName_local (O.locs x hx).1 hn (fun h' hn' hs => h _ (S.sameBut H hs ?_)) (by rw [O.kind]; rfl)
  rcases p with p | ⟨p, rfl⟩
  · refine NsA.at hn' (fun q hq => ?_) (p.names ▸ nd)
    rcases p.mem nd q hq with ⟨h1, h2⟩ | ⟨h1, h2⟩
    · rw [if_pos h1, h2]
    · rw [if_neg h1]; exact hl _ h2
  · refine NsA.at hn' (fun q hq => ?_) (by rw [List.map_cons, List.nodup_cons]; exact ⟨p, nd⟩)
    rcases List.mem_cons.mp hq with rfl | hq
    · exact if_pos rfl
    · rw [if_neg (fun e => p (by rw [← e]; exact List.mem_map_of_mem (f := (·.1)) hq))]; exact hl _ hq
theorem n_storeC {c : Addr} {v₀ : Option Value} {F : Asn → Led} {Q : Unit → Shared → Prop} (O : EO env L lc cs) (S : St B os s l) (hx : (x, c) ∈ cs) (hk : env.kindOf x = some .cell) (H : Hole c (CellA v₀) F l)
    (h : ∀ s', St B os s' (F (CellA (some v))) → Q () s') : wpAny (model prog w) A (storeName env x v) Q E s := by
  obtain ⟨_, hc, _, _⟩ := O.cells _ hx
  refine wpAny_storeName_cell O.kind hk hc (S.rd H.mem).cell fun h' hv hs => h _ (S.sameBut H hs hv)
end
/-! text Fw2 -/
section
variable {prog : Program} {w : World} {A : Around} {E : Value → Shared → Prop} {s : Shared} {B : Heap} {os : OsState} {l : Led} {env : Env}
  {Q : Value → Shared → Prop} {a : Addr} {vs : List Value} {F : Asn → Led}

theorem x_int {i : Int} {k : Nat} {pos : Pos} (S : St B os s l) (h : ∀ t s', St B os s' l → Q (.int i t) s') : wpAny (model prog w) A (eval (.Constant (.int i) k pos) env) Q E s := wpAny_Constant_int (h _ _ S.tok)
theorem x_str {x : Str} {k : Nat} {pos : Pos} (S : St B os s l) (h : ∀ t s', St B os s' l → Q (.str x t) s') : wpAny (model prog w) A (eval (.Constant (.str x) k pos) env) Q E s := Calls.Constant_str (h _ _ S.tok)
theorem b_add {x y : Int} {t u : Tok} (S : St B os s l) (h : ∀ t s', St B os s' l → Q (.int (x + y) t) s') : wpAny (model prog w) A (binaryOp .Add (.int x t) (.int y u)) Q E s := add_int (h _ _ S.tok)
theorem b_sub {x y : Int} {t u : Tok} (S : St B os s l) (h : ∀ t s', St B os s' l → Q (.int (x - y) t) s') : wpAny (model prog w) A (binaryOp .Sub (.int x t) (.int y u)) Q E s := sub_int (h _ _ S.tok)
theorem b_mul {x y : Int} {t u : Tok} (S : St B os s l) (hm : IntMulOk x y) (h : ∀ t s', St B os s' l → Q (.int (x * y) t) s') : wpAny (model prog w) A (binaryOp .Mult (.int x t) (.int y u)) Q E s := mul_int (h _ _ S.tok) hm
theorem b_mod {x y : Int} {t u : Tok} (S : St B os s l) (hy : y ≠ 0) (h : ∀ t s', St B os s' l → Q (.int (x.fmod y) t) s') : wpAny (model prog w) A (binaryOp .Mod (.int x t) (.int y u)) Q E s := mod_int hy (h _ _ S.tok)
theorem b_shr1 {x : Int} {t u : Tok} (S : St B os s l) (h0 : 0 ≤ x) (h : ∀ t s', St B os s' l → Q (.int (x / 2) t) s') : wpAny (model prog w) A (binaryOp .RShift (.int x t) (.int 1 u)) Q E s := wpAny_rshift1_int h0 (h _ _ S.tok)

theorem g_item {k : Int} {t : Tok} {v : Value} {value slice : Expr} (x : At s.heap a (IsL vs)) (h0 : 0 ≤ k) (hk : k < 2 ^ 63) (hv : vs[k.toNat]? = some v) (h : Q v s)
    (hs : subscripted slice false (.ref a) (.int k t) = operate [.ref a, .int k t] (getItem (.ref a) (.int k t)) := by rfl) :
    wpAny (model prog w) A (subscriptTail value slice (.ref a) (.int k t)) Q E s :=
  tail_any x.list.typeIs slot_list_getitem.lookup (wpAny_getItem_list x.list h0 hk (by simpa using hv) h) hs
theorem t_item {k : Int} {t : Tok} {v : Value} {value slice : Expr} {j : Nat} (x : At s.heap a (IsT vs)) (hlo : -(2 ^ 63) ≤ k) (hk : k < 2 ^ 63) (hj : seqIndex? k vs.length = some j) (hv : vs[j]? = some v) (h : Q v s)
    (hs : subscripted slice false (.ref a) (.int k t) = operate [.ref a, .int k t] (getItem (.ref a) (.int k t)) := by rfl) :
    wpAny (model prog w) A (subscriptTail value slice (.ref a) (.int k t)) Q E s := item_tupleT x.tup hlo hk hj hv h hs

theorem s_item {k : Int} {t : Tok} {v : Value} {Q : Unit → Shared → Prop} (S : St B os s l) (H : Hole a (IsL vs) F l) (h0 : 0 ≤ k) (hk : k < 2 ^ 63) (hn : k < vs.length)
    (h : ∀ s', St B os s' (F (IsL (vs.set k.toNat v))) → Q () s') : wpAny (model prog w) A (setItem (.ref a) (.int k t) v) Q E s := by
  have x := S.rd H.mem
  have hl := x.list
  obtain ⟨o, ho, ne, rfl⟩ := x
  unfold setItem
  try with_reducible refine wpAny_holding ?_
  first | refine wpAny_bind (wpAny_pure ?_) | skip
  refine wpAny_bind (wpAny_sequenceKey hl.typeIs (by decide) ?_)
  refine wpAny_bind (wpAny_callSpecial?_slot (name := Str.ofString "__setitem__") hl.typeIs slot_list_setitem
    (wpAny_call_entry slot_list_setitem hl.typeIs entry_list_setitem ?_ (args_list_setitem _ _ _)))
  show wpAny _ _ (Builtin.List.listSubscript? (.int k t) >>= _) _ _ s
  refine wpAny_bind (wpAny_listSubscript_int (fitsIndex_of h0 hk) ?_)
  clear hk
  obtain ⟨j, rfl⟩ := Int.eq_ofNat_of_zero_le h0
  have hj : j < vs.length := by lia
  have hx' : vs.toArray[j]? = some vs[j] := by simp [hj]
  show wpAny _ _ ((seqItemAt a j >>= fun r => pure (r.map (j, ·))) >>= _) _ _ s
  refine wpAny_bind (wpAny_bind (wpAny_seqItemAt ho rfl (wpAny_pure ?_)))
  rw [hx']
  show wpAny _ _ (setSeqItemAt a j v >>= _) _ _ s
  have fin : Q () { s with heap := s.heap.update a (Obj.mapSeq (·.setIfInBounds j v)) } := by
    refine h _ (S.upd H _ fun o ho => ?_)
    obtain ⟨n, rfl⟩ := ho
    refine ⟨rfl, ?_⟩
    exact ⟨_, by simp only [Obj.mapSeq, List.setIfInBounds_toArray]; rfl⟩
  refine wpAny_bind (wpAny_setSeqItemAt ho rfl ?_)
  first
    | exact wpAny_bind (wpAny_pure (wpAny_pure ⟨.none, rfl, wpAny_pure fin⟩))
    | exact wpAny_pure ⟨.none, rfl, wpAny_pure fin⟩

noncomputable def lexlt (x0 x1 y0 y1 : Int) : Bool := decide (x0 < y0 ∨ (x0 = y0 ∧ x1 < y1))
theorem lt_tup {t1 t2 : Addr} {x0 x1 y0 y1 : Int} {a0 a1 b0 b1 : Tok} (h1 : At s.heap t1 (IsT [.int x0 a0, .int x1 a1])) (h2 : At s.heap t2 (IsT [.int y0 b0, .int y1 b1])) (hu : A.units < cLine)
    (h : Q (.bool (lexlt x0 x1 y0 y1)) s) : wpAny (model prog w) A (compareOp .Lt (.ref t1) (.ref t2)) Q E s := by
  have hT1 := h1.tup.typeIs
  have hT2 := h2.tup.typeIs
  obtain ⟨oa, hoa, na, rfl⟩ := h1
  obtain ⟨ob, hob, nb, rfl⟩ := h2
  refine cmp_ofLt (wpAny_richCompare_same_room (op := .Lt) hT1 hT2 PySem.F.slot_tuple_lt (wpAny_call_entry PySem.F.slot_tuple_lt hT1 PySem.F.entry_tuple_lt ?_ (PySem.F.args_tuple_lt_2 _ _)) hu)
  show wpAny _ _ (isInstance (.ref t2) (.type "tuple") >>= _) _ _ s
  refine wpAny_bind (wpAny_isInstance hT2 isSubtype_tuple_tuple ?_)
  simp only [Bool.not_true, Bool.false_eq_true, if_false]
  refine wpAny_bind (wpAny_tupleItemsOf hoa rfl ?_)
  refine wpAny_bind (wpAny_tupleItemsOf hob rfl ?_)
  refine wpAny_bind ?_
  have fin : ∀ {f : Value × Value → Option Fin × Unit → Sem (ForInStep (Option Fin × Unit))} {R : Option Fin × Unit → Shared → Prop} {b : Option Fin × Unit} {p q : Value × Value},
      wpAny (model prog w) A.in1 (f p b) (fun r s' => match r with | .done c => R c s' | .yield c => wpAny (model prog w) A.in1 (f q c) (fun r s' => match r with | .done c => R c s' | .yield c => R c s') E s') E s →
      wpAny (model prog w) A.in1 (forIn [p, q] b f) R E s := by
    intro f R b p q h
    rw [List.forIn_cons]
    refine wpAny_bind (wpAny_mono h (fun r s' h' => ?_) fun _ _ x => x)
    cases r with
    | done c => exact wpAny_pure h'
    | yield c =>
      dsimp only at h' ⊢
      rw [List.forIn_cons]
      refine wpAny_bind (wpAny_mono h' (fun r s' h' => ?_) fun _ _ x => x)
      cases r with
      | done c => exact wpAny_pure h'
      | yield c => dsimp only at h' ⊢; rw [List.forIn_nil]; exact wpAny_pure h'
  refine fin ?_
  refine wpAny_bind (wpAny_eqBool_int ?_)
  by_cases e0 : x0 = y0
  · subst e0
    simp only [beq_self_eq_true, Bool.not_true, Bool.false_eq_true, if_false]
    refine wpAny_pure ?_
    refine wpAny_bind (wpAny_eqBool_int ?_)
    by_cases e1 : x1 = y1
    · subst e1
      simp only [beq_self_eq_true, Bool.not_true, Bool.false_eq_true, if_false]
      refine wpAny_pure (wpAny_pure ⟨_, rfl, (fun e => nomatch e), ?_⟩)
      have : lexlt x0 x1 x0 x1 = false := by simp [lexlt]
      rw [this] at h; exact h
    · have : (x1 == y1) = false := by simpa using e1
      simp only [this, Bool.not_false, if_true]
      refine wpAny_bind (wpAny_rule (wpAny_bind (lt_int (wpAny_bind (wpAny_pure (wpAny_pure (wpAny_pure ⟨_, rfl, (fun e => nomatch e), ?_⟩)))))))
      have : lexlt x0 x1 x0 y1 = decide (x1 < y1) := by simp [lexlt]
      rw [this] at h; exact h
  · have : (x0 == y0) = false := by simpa using e0
    simp only [this, Bool.not_false, if_true]
    refine wpAny_bind (wpAny_rule (wpAny_bind (lt_int (wpAny_bind (wpAny_pure (wpAny_pure (wpAny_pure ⟨_, rfl, (fun e => nomatch e), ?_⟩)))))))
    have : lexlt x0 x1 y0 y1 = decide (x0 < y0) := by simp [lexlt, e0]
    rw [this] at h; exact h
end
/-! text Fw3 -/
noncomputable def KeepF (M : Model) (h : Heap) (f : Value) : Prop := ∃ k, (k = Keeper.frame ∨ k = Keeper.machine ∨ k = Keeper.boundFrame) ∧ Looks M h (keeperOf f) k
theorem keep_builtin {M : Model} {h : Heap} {id : String} : KeepF M h (.builtin id) := ⟨.machine, .inr (.inl rfl), .now⟩
theorem keep_type {M : Model} {h : Heap} {id : String} : KeepF M h (.type id) := ⟨.machine, .inr (.inl rfl), .now⟩
theorem keep_K {M : Model} {w : World} {B h : Heap} {f : Value} (kb : KB w B) (k : Sub B h) (hk : keepIn (KK w) f = true) : KeepF M h f := keeps_K hk h (kb.k.keeps k)

section
variable {M : Model} {A : Around} {E : Value → Shared → Prop} {s : Shared} {env : Env} {Q : Value → Shared → Prop}
theorem c_with1 {f : Value} {first : List Value} {pos : Pos} {e : Expr} (h : wpAny M A (eval e env) (fun v s₂ => KeepF M s₂.heap f ∧ wpAny M A (call f (first ++ [v])) Q E s₂) E s)
    (he : starEach [e] env = [(false, eval e env)] := by rfl) : wpAny M A (callWith pos f first (backTo pos (starEach [e] env)) (backToKw pos (keywordEach [] env))) Q E s := by
  rw [he]
  refine callWith_of (P := fun h => KeepF M h f) rfl (fun _ h => h) (evalArgs_plain (spliced_cons (wpAny_mono h (fun v s₂ h₂ => spliced_nil ⟨h₂.1, h₂.2⟩) fun _ _ x => x)))
theorem c_with2 {f : Value} {first : List Value} {pos : Pos} {e1 e2 : Expr} (h : wpAny M A (eval e1 env) (fun v1 s₁ => wpAny M A (eval e2 env) (fun v2 s₂ => KeepF M s₂.heap f ∧ wpAny M A (call f (first ++ [v1, v2])) Q E s₂) E s₁) E s)
    (he : starEach [e1, e2] env = [(false, eval e1 env), (false, eval e2 env)] := by rfl) : wpAny M A (callWith pos f first (backTo pos (starEach [e1, e2] env)) (backToKw pos (keywordEach [] env))) Q E s := by
  rw [he]
  refine callWith_of (P := fun h => KeepF M h f) rfl (fun _ h => h) (evalArgs_plain (spliced_cons (wpAny_mono h (fun v s₂ h₂ => spliced_cons (wpAny_mono h₂ (fun v s₂ h₂ => spliced_nil ⟨h₂.1, h₂.2⟩) fun _ _ x => x)) fun _ _ x => x)))
theorem c_with3 {f : Value} {first : List Value} {pos : Pos} {e1 e2 e3 : Expr} (h : wpAny M A (eval e1 env) (fun v1 s₁ => wpAny M A (eval e2 env) (fun v2 s₁ => wpAny M A (eval e3 env) (fun v3 s₂ => KeepF M s₂.heap f ∧ wpAny M A (call f (first ++ [v1, v2, v3])) Q E s₂) E s₁) E s₁) E s)
    (he : starEach [e1, e2, e3] env = [(false, eval e1 env), (false, eval e2 env), (false, eval e3 env)] := by rfl) : wpAny M A (callWith pos f first (backTo pos (starEach [e1, e2, e3] env)) (backToKw pos (keywordEach [] env))) Q E s := by
  rw [he]
  refine callWith_of (P := fun h => KeepF M h f) rfl (fun _ h => h) (evalArgs_plain (spliced_cons (wpAny_mono h (fun v s₂ h₂ => spliced_cons (wpAny_mono h₂ (fun v s₂ h₂ => spliced_cons (wpAny_mono h₂ (fun v s₂ h₂ => spliced_nil ⟨h₂.1, h₂.2⟩) fun _ _ x => x)) fun _ _ x => x)) fun _ _ x => x)))
theorem c_with0 {f : Value} {first : List Value} {pos : Pos} (hk : KeepF M s.heap f) (h : wpAny M A (call f (first ++ [])) Q E s) : wpAny M A (callWith pos f first (backTo pos (starEach [] env)) (backToKw pos (keywordEach [] env))) Q E s :=
  callWith_of (P := fun h => KeepF M h f) rfl (fun _ h => h) (evalArgs_nil3 ⟨hk, h⟩)
theorem c_call0 {f : Value} {pos : Pos} (hk : KeepF M s.heap f) (h : wpAny M A (call f []) Q E s) : wpAny M A (callWith pos f [] (backTo pos (starEach [] env)) (backToKw pos (keywordEach [] env))) Q E s := c_with0 hk h
theorem c_call1 {f : Value} {pos : Pos} {e : Expr} (h : wpAny M A (eval e env) (fun v s₂ => KeepF M s₂.heap f ∧ wpAny M A (call f [v]) Q E s₂) E s)
    (he : starEach [e] env = [(false, eval e env)] := by rfl) : wpAny M A (callWith pos f [] (backTo pos (starEach [e] env)) (backToKw pos (keywordEach [] env))) Q E s := c_with1 h he
theorem c_call2 {f : Value} {pos : Pos} {e1 e2 : Expr} (h : wpAny M A (eval e1 env) (fun v1 s₁ => wpAny M A (eval e2 env) (fun v2 s₂ => KeepF M s₂.heap f ∧ wpAny M A (call f [v1, v2]) Q E s₂) E s₁) E s)
    (he : starEach [e1, e2] env = [(false, eval e1 env), (false, eval e2 env)] := by rfl) : wpAny M A (callWith pos f [] (backTo pos (starEach [e1, e2] env)) (backToKw pos (keywordEach [] env))) Q E s := c_with2 h he
theorem c_call3 {f : Value} {pos : Pos} {e1 e2 e3 : Expr} (h : wpAny M A (eval e1 env) (fun v1 s₁ => wpAny M A (eval e2 env) (fun v2 s₁ => wpAny M A (eval e3 env) (fun v3 s₂ => KeepF M s₂.heap f ∧ wpAny M A (call f [v1, v2, v3]) Q E s₂) E s₁) E s₁) E s)
    (he : starEach [e1, e2, e3] env = [(false, eval e1 env), (false, eval e2 env), (false, eval e3 env)] := by rfl) : wpAny M A (callWith pos f [] (backTo pos (starEach [e1, e2, e3] env)) (backToKw pos (keywordEach [] env))) Q E s := c_with3 h he
theorem c_m0 {f o : Value} {pos : Pos} (hk : KeepF M s.heap f) (h : wpAny M A (call f [o]) Q E s) : wpAny M A (callWith pos f [o] (backTo pos (starEach [] env)) (backToKw pos (keywordEach [] env))) Q E s := c_with0 hk h
theorem c_m1 {f o : Value} {pos : Pos} {e : Expr} (h : wpAny M A (eval e env) (fun v s₂ => KeepF M s₂.heap f ∧ wpAny M A (call f [o, v]) Q E s₂) E s)
    (he : starEach [e] env = [(false, eval e env)] := by rfl) : wpAny M A (callWith pos f [o] (backTo pos (starEach [e] env)) (backToKw pos (keywordEach [] env))) Q E s := c_with1 h he
theorem c_m2 {f o : Value} {pos : Pos} {e1 e2 : Expr} (h : wpAny M A (eval e1 env) (fun v1 s₁ => wpAny M A (eval e2 env) (fun v2 s₂ => KeepF M s₂.heap f ∧ wpAny M A (call f [o, v1, v2]) Q E s₂) E s₁) E s)
    (he : starEach [e1, e2] env = [(false, eval e1 env), (false, eval e2 env)] := by rfl) : wpAny M A (callWith pos f [o] (backTo pos (starEach [e1, e2] env)) (backToKw pos (keywordEach [] env))) Q E s := c_with2 h he
/-- e.g. x.append(e): the object, then the method, then what is handed over -/
theorem c_meth {o : Expr} {name : Str} {apos pos : Pos} {args : List Expr} {pl : Sem Bool}
    (h : wpAny M A (eval o env) (fun ov s₁ => wpAny M A (getMethod ov name pl) (fun fx s₂ => wpAny M A (callWith pos fx.1 fx.2 (backTo pos (starEach args env)) (backToKw pos (keywordEach [] env))) Q E s₂) E s₁) E s)
    (he : eval (.Call (.Attribute o name apos) args [] pos) env = (do
      let ov ← eval o env
      standAt apos.atName
      let (f, first) ← holding [ov] (getMethod ov name pl)
      callWith pos f first (backTo pos (starEach args env)) (backToKw pos (keywordEach [] env))) := by rfl) :
    wpAny M A (eval (.Call (.Attribute o name apos) args [] pos) env) Q E s := methodCall_KW h he
end

noncomputable def retOf : Flow → Value
  | .ret v => v
  | _ => .none
noncomputable def locsOk (sc : Scope) (lc : List Str) : Bool := lc.all fun x => sc.names.lookup x == some .local && !(x == ("__debug__" : Str))
noncomputable def gloOk (K : Frag) (sc : Scope) (gl : List (Str × Value)) : Bool := gl.all fun p =>
  sc.names.lookup p.1 == some .globalImplicit && !(p.1 == ("__debug__" : Str)) && !(p.1 == ("__name__" : Str)) && (nsIn K mainGlobals p.1 == some (some p.2) || (nsIn K mainGlobals p.1 == some none && bootBuiltins p.1 == some p.2))
noncomputable def nodupB : List Str → Bool
  | [] => true
  | x :: r => !r.contains x && nodupB r
theorem nodup_of : ∀ {l : List Str}, nodupB l = true → l.Nodup
  | [], _ => .nil
  | x :: r, h => by
    simp only [nodupB, Bool.and_eq_true, Bool.not_eq_true', List.contains_eq_mem, decide_eq_false_iff_not] at h
    exact List.nodup_cons.mpr ⟨h.1, nodup_of h.2⟩
noncomputable def lookOk (binds lo : List (Str × Value)) : Bool := lo.all fun p => binds.reverse.lookup p.1 == some p.2

theorem EO.of {env : Env} {L : Addr} {sc : Scope} {lc : List Str} (hs : env.scope = sc) (hl : env.locals = L) (hg : env.globals = mainGlobals) (hb : env.builtins = builtinsNs) (hk : sc.kind = .function) (hi : interactive env = false) (h : locsOk sc lc = true) : EO env L lc [] := by
  refine ⟨hl, by rw [hs]; exact hk, hg, hb, hi, fun x hx => ?_, fun p hp => nomatch hp⟩
  have := List.all_eq_true.mp h x hx
  simp only [Bool.and_eq_true, beq_iff_eq, Bool.not_eq_true'] at this
  exact ⟨by unfold Env.kindOf; rw [hs]; exact this.1, this.2⟩
theorem glo_of {w : World} {env : Env} {sc : Scope} {gl : List (Str × Value)} (hs : env.scope = sc) (h : gloOk (KK w) sc gl = true) : ∀ p ∈ gl, Glo w env p.1 p.2 := by
  intro p hp
  have := List.all_eq_true.mp h p hp
  simp only [Bool.and_eq_true, Bool.or_eq_true, beq_iff_eq, Bool.not_eq_true'] at this
  obtain ⟨⟨⟨h1, h2⟩, h3⟩, h4⟩ := this
  refine ⟨by unfold Env.kindOf; rw [hs]; exact h1, h2, fun e => ?_, h4⟩
  rw [e] at h3; simp at h3

theorem inter_of {env : Env} (hk : env.scope.kind = .function) : interactive env = false := by unfold interactive; rw [hk]; rfl
theorem Cx.deeper {A : Around} {k : Nat} {env : Env} (C : Cx A (k + 1)) : Cx (A.deeper env) k :=
  ⟨C.handled, by have := C.depth; show A.depth + 1 + 2 * k < _; lia, by have := C.units; show A.units + 3 + 20 * k + 50 < _; lia⟩
theorem Cx.less {A : Around} {k k' : Nat} (C : Cx A k) (h : k' ≤ k) : Cx A k' := ⟨C.handled, by have := C.depth; lia, by have := C.units; lia⟩
theorem Cx.u {A : Around} {k : Nat} (C : Cx A k) : A.units < cLine := by have := C.units; lia

section
variable {prog : Program} {w : World} {A : Around} {E : Value → Shared → Prop} {s : Shared} {B : Heap} {os : OsState} {l : Led} {Q : Value → Shared → Prop}
/-- a def without cells is entered: its own frame, its arguments, the ledger that it was handed -/
theorem code_fn {R : Result → Shared → Prop} {k : Nat} {f : Addr} {fd : FuncData} {oc : Value} {od : Option Addr} {osl : Array (Option Value)} {body : List Stmt} {args : List Value} {kw : List (Str × Value)}
    (lc : List Str) (gl : List (Str × Value)) (binds : List (Str × Value)) (C : Cx A (k + 1)) (kb : KB w B) (S : St B os s l)
    (ho : (KK w).lookup f = some ⟨oc, od, .func fd, osl⟩) (hcd : codeIn (KK w) fd.code fd.qualname = true) (hbody : fd.body = .stmts body)
    (hbind : BindsTo s fd ⟨args, kw⟩ binds) (hcell : (fd.scope.names.all fun x => x.2 != .cell) = true) (hloc : (binds.all fun x => fd.scope.names.lookup x.1 == some .local) = true) (hnd' : nodupB (binds.map (·.1)) = true)
    (hlc : locsOk fd.scope lc = true) (hgl : gloOk (KK w) fd.scope gl = true) (hg : fd.globals = mainGlobals) (hb : fd.builtins = builtinsNs)
    (hco : fd.scope.isCoroutine = false) (hgen : fd.scope.isGenerator = false) (hk : fd.scope.kind = .function)
    (h : ∀ A' env L s', Cx A' k → EO env L lc [] → Glos w env gl → St B os s' ((L, NsA binds) :: l) →
      wpAny (model prog w) A' (execs body env) (fun fl s'' => R (.ok (.ret (retOf fl))) s'') (fun _ _ => False) s') :
    codeAny (model prog w) A (.call (.ref f) ⟨args, kw⟩) R s := by
  have kb' := kb.sub S.keep
  have hnd := nodup_of hnd'
  refine codeAny_call_def (fd := fd) (body := body) (binds := binds) (by have := C.depth; lia) (kb'.k _ _ ho) rfl kb'.lim (codeRec_of kb'.k hcd) hbody hbind
    (fun x hx e => by have := List.all_eq_true.mp hcell x hx; rw [e] at this; simp at this) (fun x hx => by have := List.all_eq_true.mp hloc x hx; simpa using this) (fun h₀ hns hk₀ => ?_) hco hgen hk
  refine wpAny_mono (h _ (callEnv fd s.heap.objs.size f) s.heap.objs.size _ C.deeper (EO.of rfl rfl hg hb hk (inter_of hk) hlc) (glo_of rfl hgl) (S.new hk₀ (size_none _) (NsA.at hns ?_ hnd))) (fun fl s'' x => ?_) fun _ _ x => x.elim
  · intro p hp
    have key : ∀ {bs : List (Str × Value)} {p : Str × Value}, p ∈ bs → (bs.map (·.1)).Nodup → bs.lookup p.1 = some p.2 := by
      intro bs
      induction bs with
      | nil => intro p hp; cases hp
      | cons q r ih =>
        intro p hp nd
        obtain ⟨q1, q2⟩ := q
        rw [List.map_cons, List.nodup_cons] at nd
        rcases List.mem_cons.mp hp with rfl | hp
        · simp [List.lookup_cons]
        · have : (p.1 == q1) = false := by
            simp only [beq_eq_false_iff_ne, ne_eq]
            intro e
            exact nd.1 (by rw [← e]; exact List.mem_map_of_mem (f := (·.1)) hp)
          rw [List.lookup_cons, this]
          exact ih hp nd.2
    exact key (List.mem_reverse.mpr hp) (by rw [List.map_reverse]; exact (List.reverse_perm _).nodup_iff.mpr hnd)
  · cases fl <;> exact x
/-- a def without cells is called -/
theorem call_fn {k : Nat} {f : Addr} {fd : FuncData} {oc : Value} {od : Option Addr} {osl : Array (Option Value)} {body : List Stmt} {args : List Value} {kw : List (Str × Value)}
    (lc : List Str) (gl : List (Str × Value)) (binds : List (Str × Value)) (C : Cx A (k + 1)) (kb : KB w B) (S : St B os s l)
    (ho : (KK w).lookup f = some ⟨oc, od, .func fd, osl⟩) (hcd : codeIn (KK w) fd.code fd.qualname = true) (hbody : fd.body = .stmts body)
    (hbind : BindsTo s fd ⟨args, kw⟩ binds) (hcell : (fd.scope.names.all fun x => x.2 != .cell) = true) (hloc : (binds.all fun x => fd.scope.names.lookup x.1 == some .local) = true) (hnd' : nodupB (binds.map (·.1)) = true)
    (hlc : locsOk fd.scope lc = true) (hgl : gloOk (KK w) fd.scope gl = true) (hg : fd.globals = mainGlobals) (hb : fd.builtins = builtinsNs)
    (hco : fd.scope.isCoroutine = false) (hgen : fd.scope.isGenerator = false) (hk : fd.scope.kind = .function)
    (h : ∀ A' env L s', Cx A' k → EO env L lc [] → Glos w env gl → St B os s' ((L, NsA binds) :: l) →
      wpAny (model prog w) A' (execs body env) (fun fl s'' => Q (retOf fl) s'') (fun _ _ => False) s') :
    wpAny (model prog w) A (call (.ref f) args kw) Q E s :=
  wpAny_call (code_fn lc gl binds C kb S ho hcd hbody hbind hcell hloc hnd' hlc hgl hg hb hco hgen hk h)
end
/-! text Fw4 -/
section
variable {M : Model} {A : Around} {E : Value → Shared → Prop} {s : Shared} {env : Env} {Q : Flow → Shared → Prop} {rest body orelse : List Stmt} {v : Value}
noncomputable def SeqK (M : Model) (A : Around) (E : Value → Shared → Prop) (env : Env) (rest : List Stmt) (Q : Flow → Shared → Prop) (f : Flow) (s : Shared) : Prop :=
  match f with
  | .next => wpAny M A (execs rest env) Q E s
  | f => Q f s
theorem e_seq {st : Stmt} (h : wpAny M A (exec st env) (SeqK M A E env rest Q) E s) : wpAny M A (execs (st :: rest) env) Q E s := wpAny_execs_cons h
theorem k_next (h : wpAny M A (execs rest env) Q E s) : SeqK M A E env rest Q .next s := h
theorem k_ret (h : Q (.ret v) s) : SeqK M A E env rest Q (.ret v) s := h
theorem k_brk (h : Q .brk s) : SeqK M A E env rest Q .brk s := h
theorem k_cont (h : Q .cont s) : SeqK M A E env rest Q .cont s := h

noncomputable def ExprK (Q : Flow → Shared → Prop) (v : Value) (s : Shared) : Prop := (∀ a, v ≠ .ref a) ∧ Q .next s
theorem e_expr {L : Addr} {lc : List Str} {cs : List (Str × Addr)} {e : Expr} {pos : Pos} (O : EO env L lc cs) (h : wpAny M A (eval e env) (ExprK Q) E s) (hs : swapsWith e none pos.line env = pure false := by rfl) : wpAny M A (exec (.Expr e pos) env) Q E s :=
  wpAny_Expr (wpAny_mono h (fun v s' h' => by
    cases v <;> first | exact h'.2 | exact (h'.1 _ rfl).elim) fun _ _ x => x) O.inter hs
theorem k_none (h : Q .next s) : ExprK Q .none s := ⟨fun _ => (nofun), h⟩
noncomputable def IfK (M : Model) (A : Around) (E : Value → Shared → Prop) (env : Env) (body orelse : List Stmt) (Q : Flow → Shared → Prop) (b : Bool) (s : Shared) : Prop :=
  if b = true then wpAny M A (execs body env) Q E s else wpAny M A (execs orelse env) Q E s
theorem e_if {test : Expr} {pos : Pos} (h : wpAny M A (isTrue test env (eval test env)) (IfK M A E env body orelse Q) E s) : wpAny M A (exec (.If test body orelse pos) env) Q E s := wpAny_If h
theorem i_case {b : Bool} (h1 : b = true → wpAny M A (execs body env) Q E s) (h2 : b = false → wpAny M A (execs orelse env) Q E s) : IfK M A E env body orelse Q b s := by
  cases b
  · exact h2 rfl
  · exact h1 rfl
theorem i_true {b : Bool} (hb : b = true) (h : wpAny M A (execs body env) Q E s) : IfK M A E env body orelse Q b s := by subst hb; exact h
theorem i_false {b : Bool} (hb : b = false) (h : wpAny M A (execs orelse env) Q E s) : IfK M A E env body orelse Q b s := by subst hb; exact h

/-- a statement whose ways meet again -/
theorem e_join {st : Stmt} (P : Shared → Prop) (h : wpAny M A (exec st env) (fun f s => f = .next ∧ P s) E s) (after : ∀ s, P s → Q .next s) : wpAny M A (exec st env) Q E s :=
  wpAny_mono h (fun f s h => by rw [h.1]; exact after s h.2) fun _ _ x => x
noncomputable def AndK (M : Model) (A : Around) (E : Value → Shared → Prop) (env : Env) (rest : List Expr) (pos : Pos) (whole : Sem Value) (Q : Bool → Shared → Prop) (c : Bool) (s : Shared) : Prop :=
  if c = true then wpAny M A (isTrue (.BoolOp .And rest pos) env whole) Q E s else Q false s
theorem e_and {x : Expr} {rest : List Expr} {pos : Pos} {whole : Sem Value} {Q : Bool → Shared → Prop} (h : wpAny M A (isTrue x env (eval x env)) (AndK M A E env rest pos whole Q) E s) :
    wpAny M A (isTrue (.BoolOp .And (x :: rest) pos) env whole) Q E s := isTrue_and h
theorem a_last {pos : Pos} {whole : Sem Value} {Q : Bool → Shared → Prop} {c : Bool} (h : Q c s) : AndK M A E env [] pos whole Q c s := by
  cases c
  · exact h
  · exact isTrue_and_nil h
theorem a_case {rest : List Expr} {pos : Pos} {whole : Sem Value} {Q : Bool → Shared → Prop} {c : Bool} (h1 : c = true → wpAny M A (isTrue (.BoolOp .And rest pos) env whole) Q E s) (h2 : c = false → Q false s) :
    AndK M A E env rest pos whole Q c s := by
  cases c
  · exact h2 rfl
  · exact h1 rfl

/-- what a turn of a while comes to -/
noncomputable def TurnK (I : Nat → Shared → Prop) (n : Nat) (Q : Flow → Shared → Prop) (f : Flow) (s : Shared) : Prop :=
  match f with
  | .next => ∃ m, m < n ∧ I m s
  | .cont => ∃ m, m < n ∧ I m s
  | .brk => Q .next s
  | .ret v => Q (.ret v) s
noncomputable def TestK (M : Model) (A : Around) (env : Env) (body : List Stmt) (I : Nat → Shared → Prop) (n : Nat) (Q : Flow → Shared → Prop) (b : Bool) (s : Shared) : Prop :=
  if b = true then wpAny M A (execs body env) (TurnK I n Q) (fun _ _ => False) s else Q .next s
theorem w_case {I : Nat → Shared → Prop} {n : Nat} {b : Bool} (h1 : b = true → wpAny M A (execs body env) (TurnK I n Q) (fun _ _ => False) s) (h2 : b = false → Q .next s) : TestK M A env body I n Q b s := by
  cases b
  · exact h2 rfl
  · exact h1 rfl
theorem t_next {I : Nat → Shared → Prop} {n m : Nat} (hm : m < n) (h : I m s) : TurnK I n Q .next s := ⟨m, hm, h⟩
theorem t_cont {I : Nat → Shared → Prop} {n m : Nat} (hm : m < n) (h : I m s) : TurnK I n Q .cont s := ⟨m, hm, h⟩
theorem t_brk {I : Nat → Shared → Prop} {n : Nat} (h : Q .next s) : TurnK I n Q .brk s := h
theorem t_ret {I : Nat → Shared → Prop} {n : Nat} (h : Q (.ret v) s) : TurnK I n Q (.ret v) s := h
end

theorem w_while {prog : Program} {w : World} {A : Around} {E : Value → Shared → Prop} {s : Shared} {env : Env} {Q : Flow → Shared → Prop} {test : Expr} {body : List Stmt} {pos : Pos} (I : Nat → Shared → Prop) (n : Nat) (h0 : I n s)
    (turn : ∀ n s, I n s → wpAny (model prog w) A (isTrue test env (eval test env)) (TestK (model prog w) A env body I n Q) (fun _ _ => False) s) : wpAny (model prog w) A (exec (.While test body [] pos) env) Q E s := by
  refine wpAny_While (codeAny_whileLoop (R := fun r s' => match r with | .ok f => Q f s' | .error e => cameBackBy (model prog w) A env E e s') I (fun n s hi => ?_) n h0)
  refine wpAny_mono (turn n s hi) (fun b s₂ h => ?_) fun _ _ x => x.elim
  cases b with
  | true =>
    simp only [if_true]
    refine wpAny_mono (show wpAny _ _ _ _ _ _ from h) (fun f s₃ h₃ => ?_) fun _ _ x => x.elim
    cases f <;> exact h₃
  | false =>
    simp only [Bool.false_eq_true, if_false]
    exact wpAny_execs_nil h

/-- the same, what holds behind the loop said once -/
theorem w_whileP {prog : Program} {w : World} {A : Around} {E : Value → Shared → Prop} {s : Shared} {env : Env} {Q : Flow → Shared → Prop} {test : Expr} {body : List Stmt} {pos : Pos} (I : Nat → Shared → Prop) (P : Shared → Prop) (n : Nat) (h0 : I n s)
    (turn : ∀ n s, I n s → wpAny (model prog w) A (isTrue test env (eval test env)) (TestK (model prog w) A env body I n (fun f s => f = .next ∧ P s)) (fun _ _ => False) s) (after : ∀ s, P s → Q .next s) :
    wpAny (model prog w) A (exec (.While test body [] pos) env) Q E s :=
  wpAny_mono (w_while (E := E) I n h0 turn) (fun f s h => by rw [h.1]; exact after s h.2) fun _ _ x => x

theorem NsA.weak {lo lo' : List (Str × Value)} (hs : ∀ p ∈ lo', p ∈ lo) (nd : (lo'.map (·.1)).Nodup) : ∀ o, NsA lo o → NsA lo' o :=
  fun _ ⟨_, es, ep, hd, hk, hl⟩ => ⟨nd, es, ep, hd, hk, fun p hp => hl p (hs p hp)⟩
theorem St.names {B : Heap} {os : OsState} {s : Shared} {l : Led} {L : Addr} {lo : List (Str × Value)} (lo' : List (Str × Value)) (S : St B os s ((L, NsA lo) :: l)) (hs : ∀ p ∈ lo', p ∈ lo) (nd : nodupB (lo'.map (·.1)) = true) : St B os s ((L, NsA lo') :: l) :=
  S.imp .here (NsA.weak hs (nodup_of nd))

theorem St.namesH {B : Heap} {os : OsState} {s : Shared} {l : Led} {L : Addr} {lo : List (Str × Value)} {F : Asn → Led} (lo' : List (Str × Value)) (S : St B os s l) (H : Hole L (NsA lo) F l) (hs : ∀ p ∈ lo', p ∈ lo) (nd : nodupB (lo'.map (·.1)) = true) : St B os s (F (NsA lo')) :=
  S.imp H (NsA.weak hs (nodup_of nd))

/-! an item of the heap: where its tuple lies, its weight, its number -/
structure It where
  a : Addr
  w : Int
  k : Int
  tw : Tok
  tk : Tok
noncomputable def It.val (i : It) : Value := .ref i.a
noncomputable def It.asn (i : It) : Asn := IsT [.int i.w i.tw, .int i.k i.tk]
noncomputable def It.lt (i j : It) : Bool := lexlt i.w i.k j.w j.k
noncomputable def It.In (i : It) (B : Heap) : Prop := At B i.a i.asn

noncomputable def supL (new : It) : Nat → Nat → List It → Nat × List It
  | 0, pos, its => (pos, its)
  | f + 1, pos, its =>
    if 2 * pos + 1 < its.length then
      let c := if 2 * pos + 2 < its.length ∧ (its.getD (2 * pos + 1) new).lt (its.getD (2 * pos + 2) new) = false then 2 * pos + 2 else 2 * pos + 1
      supL new f c (its.set pos (its.getD c new))
    else (pos, its)
noncomputable def sdown (new : It) (start : Nat) : Nat → Nat → List It → List It
  | 0, pos, its => its.set pos new
  | f + 1, pos, its => if start < pos then (match its[(pos - 1) / 2]? with
      | some par => if new.lt par then sdown new start f ((pos - 1) / 2) (its.set pos par) else its.set pos new
      | none => its.set pos new) else its.set pos new
theorem sdown_fuel (new : It) (start : Nat) : ∀ (f pos : Nat) (its : List It), pos ≤ f → sdown new start f pos its = sdown new start pos pos its := by
  intro f
  induction f using Nat.strongRecOn with
  | ind f ih =>
    intro pos its h
    cases pos with
    | zero => cases f <;> simp [sdown]
    | succ p =>
      cases f with
      | zero => lia
      | succ f =>
        simp only [sdown]
        split
        · split
          · split
            · rw [ih f (by lia) _ _ (by lia)]
              by_cases hp : p ≤ f
              · by_cases e : p = f
                · subst e; rw [← ih p (by lia) _ _ (by lia)]
                · rw [← ih p (by lia) _ _ (by lia)]
              · lia
            · rfl
          · rfl
        · rfl
noncomputable def siftup (new : It) (its : List It) (pos : Nat) : List It :=
  let r := supL new its.length pos its
  sdown new pos r.1 r.1 (r.2.set r.1 new)

section
variable {prog : Program} {w : World} {A : Around} {E : Value → Shared → Prop} {s : Shared} {B : Heap} {os : OsState} {l : Led} {env : Env} {L : Addr} {lc : List Str} {cs : List (Str × Addr)} {lo : List (Str × Value)}
  {x : Str} {v : Value}
theorem n_set {F : Asn → Led} {lo' : List (Str × Value)} {Q : Unit → Shared → Prop} (O : EO env L lc cs) (S : St B os s l) (H : Hole L (NsA lo) F l) (hx : x ∈ lc) (p : Put x v lo lo')
    (h : ∀ s', St B os s' (F (NsA lo')) → Q () s') : wpAny (model prog w) A (storeName env x v) Q E s := n_store O S H hx (.inl p) h
theorem n_new {F : Asn → Led} {Q : Unit → Shared → Prop} (O : EO env L lc cs) (S : St B os s l) (H : Hole L (NsA lo) F l) (hx : x ∈ lc) (p : (lo.all fun q => !(q.1 == x)) = true)
    (h : ∀ s', St B os s' (F (NsA ((x, v) :: lo))) → Q () s') : wpAny (model prog w) A (storeName env x v) Q E s :=
  n_store O S H hx (.inr ⟨fun hm => by
    obtain ⟨q, hq, e⟩ := List.mem_map.mp hm
    have := List.all_eq_true.mp p q hq
    simp at this; exact this e, rfl⟩) h
theorem len_l {a : Addr} {vs : List Value} {n : Nat} {Q : Value → Shared → Prop} (S : St B os s l) (m : (a, IsL vs) ∈ l) (hn : vs.length = n) (hv : n < 2 ^ 62) (h : ∀ t s', St B os s' l → Q (.int n t) s') :
    wpAny (model prog w) A (call (.builtin "len") [.ref a]) Q E s := by
  refine Calls.call_len_list (S.rd m).list (by rw [List.size_toArray]; lia) ?_
  rw [List.size_toArray, hn]
  exact h _ _ S.tok
end
noncomputable abbrev S_ (x : String) : Str := Str.ofString x
theorem b63 {m n : Nat} (h : m < n) (hn : n < 2 ^ 20) : (m : Int) < 2 ^ 63 := Int.lt_trans (Int.ofNat_lt.mpr (Nat.lt_trans h hn)) (by decide)
theorem len_step {n c p f : Nat} (h : n - p ≤ f + 1) (hc : p < c) : n - c ≤ f := Nat.le_trans (Nat.sub_le_sub_left hc n) (Nat.sub_le_iff_le_add.mpr (by rw [Nat.add_succ, ← Nat.succ_add]; exact Nat.sub_le_iff_le_add.mp h))
theorem p_lt1 (p : Nat) : p < 2 * p + 1 := Nat.lt_succ_of_le (Nat.le_mul_of_pos_left p (by decide))
theorem half_eq (q : Nat) : (((q + 1 : Nat) : Int) - 1) / 2 = ((q / 2 : Nat) : Int) := by rw [Int.natCast_add, Int.natCast_one, Int.add_sub_cancel]; rfl
theorem list5 {α : Type} {l : List α} (h : l.length = 5) : ∃ a b c d e, l = [a, b, c, d, e] := by
  obtain ⟨a, l1, rfl⟩ := List.exists_cons_of_length_eq_add_one h
  obtain ⟨b, l2, rfl⟩ := List.exists_cons_of_length_eq_add_one (Nat.succ.inj h)
  obtain ⟨c, l3, rfl⟩ := List.exists_cons_of_length_eq_add_one (Nat.succ.inj (Nat.succ.inj h))
  obtain ⟨d, l4, rfl⟩ := List.exists_cons_of_length_eq_add_one (Nat.succ.inj (Nat.succ.inj (Nat.succ.inj h)))
  obtain ⟨e, rfl⟩ := List.length_eq_one_iff.mp (Nat.succ.inj (Nat.succ.inj (Nat.succ.inj (Nat.succ.inj h))))
  exact ⟨a, b, c, d, e, rfl⟩
/-! text Fw5 -/
section
variable {prog : Program} {w : World} {A : Around} {E : Value → Shared → Prop} {s : Shared} {B : Heap} {os : OsState} {l : Led} {env : Env} {a : Addr} {vs : List Value} {v : Value} {F : Asn → Led}
theorem m_list {name : Str} {id : String} {pl : Sem Bool} {Q : Value × List Value → Shared → Prop} (x : At s.heap a (IsL vs)) (slot : Slot "list" name id) (hty : typeOf (.builtin id) = pure (.type "method_descriptor"))
    (h : Q (.builtin id, [.ref a]) s) : wpAny (model prog w) A (getMethod (.ref a) name pl) Q E s :=
  getMethod_builtin x.list.typeIs PySem.F.plainAttrs_list slot hty (fun b e => by cases e; obtain ⟨o, ho, n, rfl⟩ := x; exact ⟨_, ho, rfl⟩) h
theorem m_pop {pl : Sem Bool} {Q : Value × List Value → Shared → Prop} (x : At s.heap a (IsL vs)) (h : Q (.builtin "list.pop", [.ref a]) s) : wpAny (model prog w) A (getMethod (.ref a) (Str.ofString "pop") pl) Q E s :=
  m_list x PySem.F.slot_list_pop PySem.F.type_list_pop h
theorem m_append {pl : Sem Bool} {Q : Value × List Value → Shared → Prop} (x : At s.heap a (IsL vs)) (h : Q (.builtin "list.append", [.ref a]) s) : wpAny (model prog w) A (getMethod (.ref a) (Str.ofString "append") pl) Q E s :=
  m_list x PySem.slot_list_append PySem.type_list_append h
theorem l_pop {Q : Value → Shared → Prop} (S : St B os s l) (H : Hole a (IsL (vs ++ [v])) F l) (hz : vs.length < 2 ^ 22) (h : ∀ s', St B os s' (F (IsL vs)) → Q v s') :
    wpAny (model prog w) A (call (.builtin "list.pop") [.ref a]) Q E s := by
  have x := S.rd H.mem
  have hl := x.list
  obtain ⟨o, ho, n, rfl⟩ := x
  have hk : (vs ++ [v]).toArray.size - 1 = vs.length := by rw [List.size_toArray, List.length_append]; rfl
  have hz' : (vs ++ [v]).toArray.size ≤ sizeLine := by rw [List.size_toArray, List.length_append, sizeLine_eq]; simp only [List.length_cons, List.length_nil]; lia
  refine call_meets PySem.F.slot_list_pop hl.typeIs PySem.F.entry_list_pop (PySem.F.args_list_pop_1 _) (PySem.MeetsSeq.list_pop_last a _ n v (by rw [hk]; simp) hz') ⟨ho, ?_⟩
  refine h _ (S.upd H _ fun o ho => ?_)
  obtain ⟨n', rfl⟩ := ho
  have e : (vs ++ [v]).toArray.eraseIdxIfInBounds ((vs ++ [v]).toArray.size - 1) = vs.toArray := by rw [hk, kl_erase, List.append_nil]
  exact ⟨rfl, _, by simp only [Obj.mapSeq, e]; rfl⟩
theorem l_append {Q : Value → Shared → Prop} (S : St B os s l) (H : Hole a (IsL vs) F l) (hz : vs.length < 2 ^ 22) (h : ∀ s', St B os s' (F (IsL (vs ++ [v]))) → Q .none s') :
    wpAny (model prog w) A (call (.builtin "list.append") [.ref a, v]) Q E s := by
  have x := S.rd H.mem
  have hl := x.list
  obtain ⟨o, ho, n, rfl⟩ := x
  have hz' : vs.toArray.size ≤ sizeLine := by rw [List.size_toArray, sizeLine_eq]; lia
  refine call_meets PySem.slot_list_append hl.typeIs PySem.entry_list_append (PySem.args_list_append _ _) (PySem.list_append a _ n v hz') ⟨ho, ?_⟩
  refine h _ (S.upd H _ fun o ho => ?_)
  obtain ⟨n', rfl⟩ := ho
  exact ⟨rfl, _, by simp only [Obj.mapSeq, List.push_toArray]; rfl⟩
theorem tr_list {Q : Bool → Shared → Prop} (S : St B os s l) (m : (a, IsL vs) ∈ l) (hz : vs.length < 2 ^ 62) (h : ∀ s', St B os s' l → Q (!vs.isEmpty) s') : wpAny (model prog w) A (truthy (.ref a)) Q E s := by
  refine wpAny_truthy_list (S.rd m).list (by rw [List.size_toArray]; lia) ?_
  have e : vs.toArray.isEmpty = vs.isEmpty := by cases vs <;> rfl
  rw [e]
  exact h _ S.tok
theorem new_list {Q : Value → Shared → Prop} (S : St B os s l) (hz : vs.length < 2 ^ 22) (h : ∀ D s', St B os s' ((D, IsL vs) :: l) → Q (.ref D) s') : wpAny (model prog w) A (newList vs) Q E s :=
  wpAny_newObj_type (h _ _ (S.push _ rfl ⟨0, rfl⟩)) (by show vs.toArray.size ≤ sizeLine; rw [List.size_toArray, sizeLine_eq]; lia)
theorem new_tup {Q : Value → Shared → Prop} (S : St B os s l) (hz : vs.length < 2 ^ 22) (h : ∀ D s', St B os s' ((D, IsT vs) :: l) → Q (.ref D) s') : wpAny (model prog w) A (newTuple vs) Q E s :=
  wpAny_newObj_type (h _ _ (S.push _ rfl ⟨0, rfl⟩)) (by show vs.toArray.size ≤ sizeLine; rw [List.size_toArray, sizeLine_eq]; lia)
/-- a test that is no comparison -/
theorem e_test {e : Expr} {whole : Sem Value} {Q : Bool → Shared → Prop} {M : Model} (h : wpAny M A whole (fun v s₁ => wpAny M A (truthy v) Q E s₁) E s)
    (he : isTrue e env whole = (do let v ← whole; standAt e.pos; holding [v] (truthy v)) := by rfl) : wpAny M A (isTrue e env whole) Q E s := isTrue_plain h he
end
/-! text Fw6 -/
theorem Take.mem {p : Addr × Asn} {r r' : Led} (x : Take p r r') : p ∈ r := x.perm.mem_iff.mpr (.head _)
section
variable {B : Heap} {os : OsState} {s : Shared} {l l' : Led} {a : Addr} {P P' : Asn} {t : Nat} {d : Drawn} {h' : Heap}
/-- an object that is forgotten -/
theorem St.extBut (S₀ : St B os s l) (T : Take (a, P) l l') (k : Heap.ExtBut a s.heap h') : St B os ⟨h', s.gens, d, t, s.os⟩ l' := by
  have S := S₀.perm T.perm
  have nd := S.nd
  rw [List.map_cons, List.nodup_cons] at nd
  have hB : B.get? a = none := S.fresh (a, P) (.head _)
  refine ⟨fun b o e => k b o (fun q => by rw [q, hB] at e; cases e) (S.keep b o e), fun p hp => ?_, fun p hp => S.fresh p (.tail _ hp), nd.2, S.gens, S.os⟩
  obtain ⟨o, ho, hP⟩ := S.has p (.tail _ hp)
  exact ⟨o, k _ _ (fun q => nd.1 (by rw [← q]; exact List.mem_map_of_mem (f := (·.1)) hp)) ho, hP⟩
end

noncomputable def IsR (n : Int) : Asn := fun o => ∃ t u v, o = { cls := .type "range", dict := none, data := .fields #[.int 0 t, .int n u, .int 1 v], slots := #[] }
noncomputable def IsRI (x left step : Int) : Asn := fun o => o = { cls := .type "range_iterator", dict := none, data := .fields #[rawInt x, rawInt left, rawInt step], slots := #[] }
noncomputable def IsLI (l : Addr) (i : Nat) : Asn := fun o => o.cls = .type "list_iterator" ∧ o.data = .fields #[.ref l, .int i 0]

section
variable {prog : Program} {w : World} {A : Around} {E : Value → Shared → Prop} {s : Shared} {B : Heap} {os : OsState} {l l' : Led} {env : Env} {a it : Addr} {vs : List Value} {v : Value} {F : Asn → Led}
theorem r_range {n : Int} {t : Tok} {Q : Value → Shared → Prop} (S : St B os s l) (h : ∀ D s', St B os s' ((D, IsR n) :: l) → Q (.ref D) s') : wpAny (model prog w) A (call (.type "range") [.int n t]) Q E s :=
  call_range_1 (h _ _ (S.push _ rfl ⟨_, _, _, rfl⟩))
theorem it_range {n : Int} {Q : Value → Shared → Prop} (S : St B os s l) (m : (a, IsR n) ∈ l) (hn : 0 ≤ n) (hs : Builtin.Range.small 0 n 1 = true) (hz : Builtin.Range.rangeSize 0 n 1 = n) (h : ∀ D s', St B os s' ((D, IsRI 0 n 1) :: l) → Q (.ref D) s') :
    wpAny (model prog w) A (pyIter (.ref a)) Q E s := by
  obtain ⟨o, ho, t, u, v, rfl⟩ := S.rd m
  refine wpAny_pyIter_range ho hs (h _ _ (S.push _ rfl ?_))
  rw [hz]; rfl
theorem it_ri {x left step : Int} {Q : Value → Shared → Prop} (S : St B os s l) (m : (a, IsRI x left step) ∈ l) (h : Q (.ref a) s) : wpAny (model prog w) A (pyIter (.ref a)) Q E s := by
  obtain ⟨o, ho, rfl⟩ := S.rd m
  exact wpAny_pyIter_rangeiter ho h
theorem nx_ri {x left step : Int} {Q : Option Value → Shared → Prop} (S : St B os s l) (H : Hole it (IsRI x left step) F l) (hl : 0 < left) (h : ∀ t s', St B os s' (F (IsRI (x + step) (left - 1) step)) → Q (some (.int x t)) s') :
    wpAny (model prog w) A (pyNext (.ref it)) Q E s := by
  obtain ⟨o, ho, rfl⟩ := S.rd H.mem
  exact wpAny_pyNext_range_item ho hl fun h' hi hs => h _ _ (S.sameBut H hs ⟨_, hi, rfl⟩)
theorem nx_riE {x left step : Int} {Q : Option Value → Shared → Prop} (hh : A.handled = none) (S : St B os s l) (T : Take (it, IsRI x left step) l l') (hl : left ≤ 0) (h : ∀ s', St B os s' l' → Q none s') :
    wpAny (model prog w) A (pyNext (.ref it)) Q E s := by
  obtain ⟨o, ho, rfl⟩ := S.rd T.mem
  exact wpAny_pyNext_range_end hh ho hl fun h' hs => h _ (S.extBut T hs)
theorem it_list {Q : Value → Shared → Prop} (S : St B os s l) (x : At s.heap a (IsL vs)) (h : ∀ D s', St B os s' ((D, IsLI a 0) :: l) → Q (.ref D) s') : wpAny (model prog w) A (pyIter (.ref a)) Q E s :=
  wpAny_pyIter_list x.list (h _ _ (S.push _ rfl ⟨rfl, rfl⟩))
theorem nx_li {i : Nat} {Q : Option Value → Shared → Prop} (S : St B os s l) (H : Hole it (IsLI a i) F l) (x : At s.heap a (IsL vs)) (hv : vs[i]? = some v) (h : ∀ s', St B os s' (F (IsLI a (i + 1))) → Q (some v) s') :
    wpAny (model prog w) A (pyNext (.ref it)) Q E s :=
  wpAny_pyNext_list_item (S.rd H.mem) x.list (by simpa using hv) fun h' hi hs => h _ (S.sameBut H hs hi)
theorem nx_liE {i : Nat} {Q : Option Value → Shared → Prop} (hh : A.handled = none) (S : St B os s l) (T : Take (it, IsLI a i) l l') (x : At s.heap a (IsL vs)) (hv : vs[i]? = none) (h : ∀ s', St B os s' l' → Q none s') :
    wpAny (model prog w) A (pyNext (.ref it)) Q E s :=
  wpAny_pyNext_list_end hh (S.rd T.mem) x.list (by simpa using hv) fun h' hs => h _ (S.extBut T hs)

theorem sub_ri_reversed : isSubtype (.type "range_iterator") (.type "reversed") = pure false := by rw [isSubtype_type]; kernel_rfl
theorem call_range_reversed {n : Int} {t u v : Tok} {Q : Value → Shared → Prop} (ho : IsRange s.heap a 0 n 1 t u v) (hz : Builtin.Range.rangeSize 0 n 1 = n)
    (hs : (Builtin.Range.rangeFitsLong 0 && Builtin.Range.rangeFitsLong n && Builtin.Range.rangeFitsLong 1 && Builtin.Range.rangeFitsLong (-1) && Builtin.Range.rangeFitsLong (0 - 1) && Builtin.Range.rangeFitsLong n) = true)
    (h : Q (.ref s.heap.objs.size) { s with heap := s.heap.push { cls := .type "range_iterator", data := .fields #[rawInt (n - 1), rawInt n, rawInt (-1)] } }) :
    wpAny (model prog w) A (call (.builtin "range.__reversed__") [.ref a]) Q E s := by
  have hT : s.TypeIs (.ref a) "range" := ⟨_, ho, rfl⟩
  refine wpAny_call_entry PySem.F.slot_range_reversed hT PySem.F.entry_range_reversed ?_ (PySem.F.args_range_reversed_1 _)
  unfold Builtin.«range.__reversed__»
  refine wpAny_bind (wpAny_of_eq (a := Value.ref a) rfl ?_)
  have hrf : ∀ {R : Int × Int × Int → Shared → Prop} {E' : Value → Shared → Prop}, R (0, n, 1) s → wpAny (model prog w) A.in1 (Builtin.Range.rangeFields (.ref a)) R E' s := by
    intro R E' hR
    unfold Builtin.Range.rangeFields
    refine wpAny_bind (wpAny_field ho rfl (x := .int 0 t) rfl (wpAny_bind (wpAny_of_eq (a := some 0) rfl ?_)))
    refine wpAny_bind (wpAny_field ho rfl (x := .int n u) rfl (wpAny_bind (wpAny_of_eq (a := some n) rfl ?_)))
    refine wpAny_bind (wpAny_field ho rfl (x := .int 1 v) rfl (wpAny_bind (wpAny_of_eq (a := some 1) rfl ?_)))
    exact wpAny_pure hR
  refine wpAny_bind (hrf ?_)
  dsimp only
  rw [hz, hs]
  simp only [Bool.not_true, Bool.false_eq_true, if_false, if_true]
  refine wpAny_bind (wpAny_newObj_type (wpAny_pure ⟨_, rfl, ?_⟩))
  have e : (0 : Int) + (n - 1) * 1 = n - 1 := by lia
  rw [e]
  exact h
theorem code_reversed_range {n : Int} {t u v : Tok} {Q₁ : Value → Shared → Prop} (ho : IsRange s.heap a 0 n 1 t u v) (hz : Builtin.Range.rangeSize 0 n 1 = n)
    (hs : (Builtin.Range.rangeFitsLong 0 && Builtin.Range.rangeFitsLong n && Builtin.Range.rangeFitsLong 1 && Builtin.Range.rangeFitsLong (-1) && Builtin.Range.rangeFitsLong (0 - 1) && Builtin.Range.rangeFitsLong n) = true)
    (h : Q₁ (.ref s.heap.objs.size) { s with heap := s.heap.push { cls := .type "range_iterator", data := .fields #[rawInt (n - 1), rawInt n, rawInt (-1)] } }) :
    codeAny (model prog w) A (.call (.builtin "reversed.__new__") ⟨[.type "reversed", .ref a], []⟩) (wants Q₁ E) s := by
  have hT : s.TypeIs (.ref a) "range" := ⟨_, ho, rfl⟩
  refine codeAny_of_tree ?_
  show wpAny _ A.in1 (do checkBuiltinCall "reversed.__new__" ⟨[.type "reversed", .ref a], []⟩; again (.builtin "reversed.__new__" ⟨[.type "reversed", .ref a], []⟩)) _ _ s
  refine wpAny_bind (wpAny_of_eq (PySem.F.newCall_reversed_1 _) (wpAny_pure ⟨plainId_quiet PySem.F.plain_reversed_new _, codeAny_builtin PySem.F.entry_reversed_new ?_⟩))
  rw [Around.under_plainId PySem.F.plain_reversed_new _]
  unfold Builtin.«reversed.__new__»
  refine wpAny_bind (wpAny_of_eq (newClass_reversed _) ?_)
  try dsimp only
  refine wpAny_bind (wpAny_of_eq (a := ()) (by first | rfl | kernel_rfl) ?_)
  refine wpAny_bind (wpAny_of_eq (a := ()) (by first | rfl | kernel_rfl) ?_)
  try dsimp only
  refine wpAny_bind (wpAny_specialOf hT PySem.F.slot_range_reversed.lookup ?_)
  try dsimp only
  refine wpAny_bind (wpAny_of_eq (PySem.F.slot_range_reversed.bind _) ?_)
  try dsimp only
  first
  | rw [if_neg (show ¬ ((Value.builtin "range.__reversed__" == Value.none) = true) from Bool.false_ne_true)]
  | (show wpAny _ _ (if (Value.builtin "range.__reversed__" == Value.none) = true then _ else _) _ _ _; rw [if_neg (show ¬ ((Value.builtin "range.__reversed__" == Value.none) = true) from Bool.false_ne_true)])
  refine wpAny_bind (wpAny_rule ?_)
  refine wpAny_bind (m := runValue (.call (.builtin "range.__reversed__") ⟨[.ref a], []⟩)) (show wpAny _ _ (call (.builtin "range.__reversed__") [.ref a]) _ _ _ from call_range_reversed ho hz hs ?_)
  first
  | exact wpAny_pure h
  | exact wpAny_bind (wpAny_pure (wpAny_pure h))
theorem rev_range {n : Int} {Q : Value → Shared → Prop} (S : St B os s l) (m : (a, IsR n) ∈ l) (hz : Builtin.Range.rangeSize 0 n 1 = n)
    (hs : (Builtin.Range.rangeFitsLong 0 && Builtin.Range.rangeFitsLong n && Builtin.Range.rangeFitsLong 1 && Builtin.Range.rangeFitsLong (-1) && Builtin.Range.rangeFitsLong (0 - 1) && Builtin.Range.rangeFitsLong n) = true)
    (h : ∀ D s', St B os s' ((D, IsRI (n - 1) n (-1)) :: l) → Q (.ref D) s') : wpAny (model prog w) A (call (.type "reversed") [.ref a]) Q E s := by
  obtain ⟨o, ho, t, u, v, rfl⟩ := S.rd m
  refine callType_other (U := "range_iterator") (Q₁ := fun obj s₁ => obj = .ref s.heap.objs.size ∧ s₁ = { s with heap := s.heap.push { cls := .type "range_iterator", data := .fields #[rawInt (n - 1), rawInt n, rawInt (-1)] } }) (by decide +kernel) PySem.F.create_reversed ⟨_, _, PySem.F.mro_reversed⟩ PySem.F.made_reversed sub_ri_reversed (PySem.F.typeCall_reversed_1 _) (code_reversed_range ho hz hs ⟨rfl, rfl⟩) ?_
  rintro obj s₁ ⟨rfl, rfl⟩
  exact ⟨⟨_, Heap.get?_push_size _ rfl, rfl⟩, h _ _ (S.push _ rfl rfl)⟩

/-! for loops over an iterator that gives n items -/
noncomputable def ForG (prog : Program) (w : World) (A : Around) (E : Value → Shared → Prop) (env : Env) (target : Expr) (body : List Stmt) (Q : Flow → Shared → Prop) (it : Value) (s : Shared) : Prop :=
  codeAny (model prog w) A (.forLoop target it body [] env) (fun r s' => match r with | .ok f => Q f s' | .error e => cameBackBy (model prog w) A env E e s') s
theorem e_for {target iter : Expr} {body : List Stmt} {pos : Pos} {Q : Flow → Shared → Prop} (h : wpAny (model prog w) A (eval iter env) (fun x s₁ => wpAny (model prog w) A (pyIter x) (ForG prog w A E env target body Q) E s₁) E s)
    (hs : ∀ x, foldedSetIterable iter env x = pure x := by intro _; rfl) : wpAny (model prog w) A (exec (.For target iter body [] pos) env) Q E s := wpAny_For h hs
/-- the end of a turn -/
noncomputable def ForK (J : Shared → Prop) (Q : Flow → Shared → Prop) (f : Flow) (s : Shared) : Prop :=
  match f with
  | .next => J s
  | .cont => J s
  | .brk => Q .next s
  | .ret v => Q (.ret v) s
noncomputable def NextK (M : Model) (A : Around) (env : Env) (target : Expr) (body : List Stmt) (J : Shared → Prop) (Q : Flow → Shared → Prop) (r : Option Value) (s : Shared) : Prop :=
  ∃ v, r = some v ∧ wpAny M A (assign target env v) (fun _ s₂ => wpAny M A (execs body env) (ForK J Q) (fun _ _ => False) s₂) (fun _ _ => False) s
theorem f_for {target : Expr} {body : List Stmt} {it : Value} {Q : Flow → Shared → Prop} (J : Nat → Shared → Prop) (n : Nat) (h0 : J 0 s)
    (turn : ∀ i s, i < n → J i s → wpAny (model prog w) A (pyNext it) (NextK (model prog w) A env target body (J (i + 1)) Q) (fun _ _ => False) s)
    (done : ∀ s, J n s → wpAny (model prog w) A (pyNext it) (fun r s₁ => r = none ∧ Q .next s₁) (fun _ _ => False) s) (ht : ∀ v, letOwnedTupleGo target it v = pure () := by intro _; rfl) : ForG prog w A E env target body Q it s := by
  unfold ForG
  refine codeAny_forLoop (fun m s => ∃ i, i ≤ n ∧ m = n - i ∧ J i s) (fun m s hI => ?_) n ⟨0, Nat.zero_le _, rfl, h0⟩ ht
  obtain ⟨i, hi, rfl, hJ⟩ := hI
  by_cases hlt : i < n
  · refine wpAny_mono (turn i s hlt hJ) (fun r s₁ h => ?_) fun _ _ x => x.elim
    obtain ⟨v, rfl, h⟩ := h
    refine wpAny_mono h (fun _ s₂ h => wpAny_mono h (fun f s₃ h => ?_) fun _ _ x => x.elim) fun _ _ x => x.elim
    cases f
    · exact ⟨n - (i + 1), by lia, i + 1, by lia, rfl, h⟩
    · exact h
    · exact ⟨n - (i + 1), by lia, i + 1, by lia, rfl, h⟩
    · exact h
  · obtain rfl : i = n := by lia
    refine wpAny_mono (done s hJ) (fun r s₁ h => ?_) fun _ _ x => x.elim
    obtain ⟨rfl, h⟩ := h
    exact wpAny_execs_nil h
theorem k_item {M : Model} {target : Expr} {body : List Stmt} {J : Shared → Prop} {Q : Flow → Shared → Prop} (h : wpAny M A (assign target env v) (fun _ s₂ => wpAny M A (execs body env) (ForK J Q) (fun _ _ => False) s₂) (fun _ _ => False) s) :
    NextK M A env target body J Q (some v) s := ⟨v, rfl, h⟩
theorem f_next {J : Shared → Prop} {Q : Flow → Shared → Prop} (h : J s) : ForK J Q .next s := h
theorem f_cont {J : Shared → Prop} {Q : Flow → Shared → Prop} (h : J s) : ForK J Q .cont s := h
theorem f_ret {J : Shared → Prop} {Q : Flow → Shared → Prop} (h : Q (.ret v) s) : ForK J Q (.ret v) s := h
end
/-! text Fw7 -/
theorem standIn_led (t : SetTable) (n : Nat) : (t.standIn n).led = t.led := rfl
theorem orStandIn_led (t : SetTable) (n : Nat) : (t.orStandIn n).led = t.led := by unfold SetTable.orStandIn; split <;> rfl
theorem orStandIn_plain {t : SetTable} (n : Nat) (h : t.plain = false) : (t.orStandIn n).plain = false := by unfold SetTable.orStandIn; split <;> first | exact h | rfl
theorem layNew_led (t : SetTable) (es : Array (Int × Value)) (h : Int) (x : Value) : (layNew t es h x).2.1.led = t.led := by
  unfold layNew
  split
  · show (SetTable.orStandIn _ _).led = _
    rw [orStandIn_led]; rfl
  · rfl
theorem layNew_plain {t : SetTable} (es : Array (Int × Value)) (h : Int) (x : Value) (hp : t.plain = false) : (layNew t es h x).2.1.plain = false := by
  unfold layNew
  split
  · exact orStandIn_plain _ hp
  · rfl
theorem relaid_keep {t t' : SetTable} {hs : Array Int} {n : Nat} {o : Array Nat} (h : t.relaid hs n = some (t', o)) : t'.led = t.led ∧ t'.plain = t.plain := by
  unfold SetTable.relaid SetTable.laid at h
  cases hc : SetTable.layClean (SetTable.sizeAbove n - 1) hs with
  | none => rw [hc] at h; cases h
  | some own => rw [hc] at h; cases h; exact ⟨rfl, rfl⟩
theorem relayAll_led (t : SetTable) (es : Array (Int × Value)) (n : Nat) : (relayAll t es n).2.1.led = t.led := by
  unfold relayAll
  split
  · rename_i t' o h
    dsimp only
    split
    · exact (relaid_keep h).1
    · rfl
  · rfl
theorem relayAll_plain {t : SetTable} (es : Array (Int × Value)) (n : Nat) (hp : t.plain = false) : (relayAll t es n).2.1.plain = false := by
  unfold relayAll
  split
  · rename_i t' o h
    dsimp only
    split
    · rw [(relaid_keep h).2]; exact hp
    · rfl
  · rfl

noncomputable def byTextW (w : World) : Bool := w.params.followText "set-order"
/-- a set of the texts ks, as set(..) makes it -/
noncomputable def SetA (prog : Program) (w : World) (ks : List Str) : Asn := fun o => o.ExactSet ∧ ∃ es ep t, o.data = .set es ep t ∧ ElemsOf (strKind prog w) es.toList ∧
  (∀ k, k ∈ ks ↔ ∃ e ∈ es.toList, Value.isStrOf k e.2 = true) ∧ es.size < scanBound ∧ t.fits es.size = true ∧ (byTextW w = true ∨ t.led = true) ∧ (ks = [] ∨ t.plain = false) ∧ es.size = ks.length

section
variable {prog : Program} {w : World} {A : Around} {E : Value → Shared → Prop} {s : Shared} {a : Addr} {ks : List Str} {x : Str}
theorem SetA.setOf (h : At s.heap a (SetA prog w ks)) : s.heap.SetOf (strKind prog w) a (fun k => decide (k ∈ ks)) ks.length := by
  obtain ⟨o, ho, hex, es, ep, t, hd, hel, hm, hb, hf, _, _, hn⟩ := h
  exact ⟨o, es, ep, t, ho, hex, hd, hel, fun k => by rw [decide_eq_true_eq]; exact hm k, hb, hf, hn⟩

theorem set_addStr {tk : Tok} {Q : Bool → Shared → Prop} (hS : At s.heap a (SetA prog w ks)) (hx : x ∉ ks) (hroom : ks.length + 1 < scanBound)
    (h : ∀ h', Heap.SameBut a s.heap h' → At h' a (SetA prog w (ks ++ [x])) → Q true { s with heap := h' }) :
    wpAny (model prog w) A (setAddHashed a (.str x tk) ((strKind prog w).hash x)) Q E s := by
  obtain ⟨o, ho, hex, es, ep, t, hd, hel, hmem, hb, hf, hled, hpl, hn⟩ := hS
  have hkey : (strKind prog w).is x (.str x tk) = true := strKind_is prog w x tk
  have hsc : (Value.str x tk).scannable = true := rfl
  have hb1 : es.size + 1 < scanBound := by rw [hn]; exact hroom
  unfold setAddHashed setAddHashedIn
  refine wpAny_holding (wpAny_bind (wpAny_setState_of ho hd hf ?_))
  dsimp only
  rw [byScan_of hsc hb hel]
  simp only [↓reduceIte]
  unfold setAddByScan
  refine wpAny_bind ?_
  refine wpAny_bind (wpAny_rule ?_)
  refine wpAny_bind (wpAny_setScan_of (knd := strKind prog w) hkey ho hd hf hel ?_)
  have hr : List.findIdx? (fun e => (strKind prog w).is x e.2) es.toList = none := by
    rw [List.findIdx?_eq_none_iff]
    intro e he
    cases q : (strKind prog w).is x e.2 with
    | false => rfl
    | true => exact absurd ((hmem x).mpr ⟨e, he, q⟩) hx
  rw [hr]
  dsimp only
  have hgw : ∀ (b : Bool) {s₁ : Shared} {Q' : Unit → Shared → Prop}, Q' () s₁ → wpAny (model prog w) A (match b with | true => rule "set.scan.the-table-gave-way" | false => pure ()) Q' E s₁ :=
    fun b s₁ Q' hq => by cases b <;> first | exact wpAny_pure hq | exact wpAny_rule hq
  have hperm := layNew_perm t es ((strKind prog w).hash x) (.str x tk)
  have hfits := layNew_fits t es ((strKind prog w).hash x) (.str x tk)
  have hlL := layNew_led t es ((strKind prog w).hash x) (.str x tk)
  have hlP := fun hp => layNew_plain (t := t) es ((strKind prog w).hash x) (.str x tk) hp
  generalize hL : layNew t es ((strKind prog w).hash x) (.str x tk) = L at hperm hfits hlL hlP ⊢
  obtain ⟨es1, t1, wasDummy, gave⟩ := L
  dsimp only at hperm hfits hlL hlP ⊢
  rw [Array.toList_push] at hperm
  have hel1 : ElemsOf (strKind prog w) es1.toList := (hel.push hkey hsc).perm hperm
  have hmem1 : ∀ k', k' ∈ ks ++ [x] ↔ ∃ e ∈ es1.toList, (strKind prog w).is k' e.2 = true := by
    intro k'
    have := mem_push_iff (S := fun k => decide (k ∈ ks)) hkey (fun k => by rw [decide_eq_true_eq]; exact hmem k) hperm k'
    rw [← this]; simp
  have hsz1 : es1.size = ks.length + 1 := by rw [← Array.length_toList, hperm.length_eq, List.length_append, Array.length_toList, hn]; rfl
  have hb1' : es1.size < scanBound := by rw [hsz1]; exact hroom
  refine wpAny_bind (hgw _ ?_)
  have main : ∀ t2 : SetTable, t2.fits es1.size = true → t2.led = t.led → t2.plain = false →
      wpAny (model prog w) A (do
        storeSet a es1 t2
        if (!wasDummy && t2.tooFull) = true then do
            (match (relayAll t2 es1 (SetTable.grown es1.size)).2.2 with | true => rule "set.scan.the-table-gave-way" | false => pure ())
            storeSet a (relayAll t2 es1 (SetTable.grown es1.size)).1 (relayAll t2 es1 (SetTable.grown es1.size)).2.1
            pure (some true)
          else pure (some true)) (fun r s' => r = some true ∧ Q true s') E s := by
    intro t2 hf2 hl2 hp2
    refine wpAny_bind (wpAny_storeSet_of ho hd ?_ (fits_of_scanBound hb1'))
    have hg1 : (s.heap.update a (Obj.putSet es1 t2)).get? a = some { o with data := .set es1 (ep + 1) t2 } := by
      have := Heap.get?_update_self (Obj.putSet es1 t2) ho (by rw [putSet_of es1 t2 hd]; rfl)
      rw [putSet_of es1 t2 hd] at this; exact this
    have hsb1 := Heap.SameBut.update s.heap a (Obj.putSet es1 t2)
    split
    · have hp := relayAll_perm t2 es1 (SetTable.grown es1.size)
      have hfr := relayAll_fits t2 es1 (SetTable.grown es1.size)
      have hrl := relayAll_led t2 es1 (SetTable.grown es1.size)
      have hrp := relayAll_plain es1 (SetTable.grown es1.size) hp2
      generalize hRl : relayAll t2 es1 (SetTable.grown es1.size) = Rl at hp hfr hrl hrp ⊢
      obtain ⟨es2, t3, gave2⟩ := Rl
      dsimp only at hp hfr hrl hrp ⊢
      have hsz : es2.size = es1.size := by rw [← Array.length_toList, hp.length_eq, Array.length_toList]
      have hb2 : es2.size < scanBound := by rw [hsz]; exact hb1'
      refine wpAny_bind (hgw _ ?_)
      refine wpAny_bind (wpAny_storeSet_of hg1 rfl ?_ (fits_of_scanBound hb2))
      refine wpAny_pure ⟨rfl, h _ (hsb1.trans (Heap.SameBut.update _ a _)) ⟨{ o with data := .set es2 (ep + 1 + 1) t3 }, ?_, hex, es2, _, t3, rfl, hel1.perm hp, fun k' => (hmem1 k').trans ⟨fun ⟨e, he, q⟩ => ⟨e, hp.mem_iff.mpr he, q⟩, fun ⟨e, he, q⟩ => ⟨e, hp.mem_iff.mp he, q⟩⟩, hb2, hfr, hled.imp id (fun q => by rw [hrl, hl2]; exact q), .inr hrp, by rw [hsz, hsz1, List.length_append]; rfl⟩⟩
      have := Heap.get?_update_self (Obj.putSet es2 t3) hg1 (by rw [putSet_of es2 t3 rfl]; rfl)
      rw [putSet_of es2 t3 rfl] at this; exact this
    · exact wpAny_pure ⟨rfl, h _ hsb1 ⟨_, hg1, hex, es1, _, t2, rfl, hel1, hmem1, hb1', hf2, hled.imp id (fun q => by rw [hl2]; exact q), .inr hp2, by rw [hsz1, List.length_append]; rfl⟩⟩
  by_cases hp1 : t1.plain = true
  · rw [if_pos hp1]
    refine wpAny_bind ?_
    rw [hashByValue_scannable 8 hsc]
    refine wpAny_pure ?_
    simp only [plainKind, Bool.false_eq_true, if_false]
    refine wpAny_mono (main { t1 with plain := false } (SetTable.fits_plain_off hfits) hlL rfl) (fun r s' hr => ?_) fun _ _ x => x
    obtain ⟨rfl, hq⟩ := hr
    exact wpAny_pure hq
  · rw [if_neg hp1]
    refine wpAny_bind (wpAny_pure ?_)
    simp only [↓reduceIte]
    refine wpAny_mono (main t1 hfits hlL (by simpa using hp1)) (fun r s' hr => ?_) fun _ _ x => x
    obtain ⟨rfl, hq⟩ := hr
    exact wpAny_pure hq
end
/-! text Fw8 -/
noncomputable def emptySet (w : World) : Obj := { cls := .type "set", dict := none, data := .set #[] 0 (.fresh 0 0 (!byTextW w)) }
theorem emptySet_is (prog : Program) (w : World) : SetA prog w [] (emptySet w) := by
  refine ⟨⟨rfl, rfl, rfl⟩, #[], 0, _, rfl, fun e he => by simp at he, fun k => by simp, by decide, rfl, ?_, .inl rfl, rfl⟩
  cases h : byTextW w
  · exact .inr rfl
  · exact .inl rfl
/-- the texts of a list of values -/
inductive StrsOf : List Value → List Str → Prop
  | nil : StrsOf [] []
  | cons {x : Str} {t : Tok} {vs : List Value} {xs : List Str} : StrsOf vs xs → StrsOf (.str x t :: vs) (x :: xs)
theorem StrsOf.length {vs : List Value} {xs : List Str} (h : StrsOf vs xs) : vs.length = xs.length := by
  induction h with
  | nil => rfl
  | cons _ ih => simp [ih]
theorem StrsOf.get {vs : List Value} {xs : List Str} (h : StrsOf vs xs) : ∀ {i : Nat} {x : Str}, xs[i]? = some x → ∃ t, vs[i]? = some (.str x t) := by
  induction h with
  | nil => intro i x e; simp at e
  | @cons y t vs xs _ ih =>
    intro i x e
    cases i with
    | zero => simp at e; subst e; exact ⟨t, rfl⟩
    | succ i => simp only [List.getElem?_cons_succ] at e ⊢; exact ih e
theorem StrsOf.append {vs ws : List Value} {xs ys : List Str} (h : StrsOf vs xs) (k : StrsOf ws ys) : StrsOf (vs ++ ws) (xs ++ ys) := by
  induction h with
  | nil => exact k
  | cons _ ih => exact .cons ih

section
variable {prog : Program} {w : World} {A : Around} {E : Value → Shared → Prop} {s : Shared} {B : Heap} {os : OsState} {l : Led} {a : Addr} {vs : List Value} {xs : List Str}

theorem code_set_newX (a : Value) {Q₁ : Value → Shared → Prop} (h : Q₁ (.ref s.heap.objs.size) { s with heap := s.heap.push (emptySet w) }) :
    codeAny (model prog w) A (.call (.builtin "set.__new__") ⟨[.type "set", a], []⟩) (wants Q₁ E) s := by
  refine codeAny_of_tree ?_
  show wpAny _ A.in1 (do checkBuiltinCall "set.__new__" ⟨[.type "set", a], []⟩; again (.builtin "set.__new__" ⟨[.type "set", a], []⟩)) _ _ s
  refine wpAny_bind (wpAny_of_eq (PySem.F.newCall_set_1 a) (wpAny_pure ⟨plainId_quiet PySem.F.plain_set_new _, codeAny_builtin PySem.F.entry_set_new ?_⟩))
  rw [Around.under_plainId PySem.F.plain_set_new _]
  unfold Builtin.«set.__new__» Builtin.Frozenset.newClass
  have hsub := sub_set_self
  obtain ⟨hp, g, d, tk, os⟩ := s
  dsimp only
  wp_walk
  refine wpAny_askSetting (wpAny_pure ?_)
  dsimp only
  simp only [newObj]
  refine wpAny_bind (wpAny_alloc (wpAny_pure ?_))
  exact wpAny_pure h

/-- the loop that fills the set; the list at l lies apart from the set at S and from the loop's own iterator at I -/
theorem set_fill {R : Result → Shared → Prop} (hh : A.handled = none) (I S l : Addr) (hSI : S ≠ I) (hlS : l ≠ S) (hlI : l ≠ I) (hx : StrsOf vs xs) (hnd : xs.Nodup) (hb : xs.length + 1 < scanBound) :
    ∀ (k i : Nat) (s : Shared), xs.length - i = k → i ≤ xs.length → s.heap.IsListIter I l i → s.heap.IsList l vs.toArray → At s.heap S (SetA prog w (xs.take i)) →
      (∀ h' tk, (∀ b o, b ≠ S → b ≠ I → s.heap.get? b = some o → h'.get? b = some o) → At h' S (SetA prog w xs) → R (.ok (.ret .none)) { s with heap := h', toks := tk }) →
      codeAny (model prog w) A (.builtin "set.update.loop" ⟨[.ref S, .ref I], []⟩) R s := by
  intro k
  induction k with
  | zero =>
    intro i s hk hi hit hl hS hR
    have hin : i = xs.length := by lia
    subst hin
    rw [List.take_length] at hS
    refine codeAny_builtin F.entry_set_update_loop ?_
    rw [Around.under_plainId F.plain_set_update_loop _]
    show wpAny _ A.in1 (pyNext (.ref I) >>= _) _ _ s
    refine wpAny_bind (wpAny_pyNext_list_end hh hit hl (by simp [hx.length]) fun h' hs => ?_)
    show wpAny _ A.in1 (ret Value.none) _ _ _
    refine wpAny_pure (hR h' s.toks (fun b o _ hbI e => hs b o hbI e) ?_)
    obtain ⟨o, ho, hP⟩ := hS
    exact ⟨o, hs S o hSI ho, hP⟩
  | succ k ih =>
    intro i s hk hi hit hl hS hR
    have hlt : i < xs.length := by lia
    obtain ⟨t, hv⟩ := hx.get (List.getElem?_eq_getElem hlt)
    refine codeAny_builtin F.entry_set_update_loop ?_
    rw [Around.under_plainId F.plain_set_update_loop _]
    show wpAny _ A.in1 (pyNext (.ref I) >>= _) _ _ s
    refine wpAny_bind (wpAny_pyNext_list_item hit hl (by simpa using hv) fun h' hit' hs => ?_)
    have hS' : At h' S (SetA prog w (xs.take i)) := by
      obtain ⟨o, ho, hP⟩ := hS
      exact ⟨o, (hs.2 S hSI).trans ho, hP⟩
    show wpAny _ A.in1 (holding [Value.str xs[i] t] (setAdd S (.str xs[i] t)) >>= _) _ _ _
    refine wpAny_bind (wpAny_holding ?_)
    unfold setAdd
    refine wpAny_holding ?_
    refine wpAny_bind ((strKind prog w).pyHash (k := xs[i]) (strKind_is _ _ _ _) ?_)
    have hnot : xs[i] ∉ xs.take i := by
      intro hm
      have e := List.take_append_drop i xs
      rw [List.drop_eq_getElem_cons hlt] at e
      rw [← e, List.nodup_append] at hnd
      exact hnd.2.2 _ hm _ (.head _) rfl
    refine set_addStr (s := { heap := h', gens := s.gens, drawn := s.drawn, toks := s.toks + 1, os := s.os }) hS' hnot (by rw [List.length_take]; lia) fun h2 hs2 hS2 => ?_
    have e1 : xs.take i ++ [xs[i]] = xs.take (i + 1) := by rw [List.take_add_one]; simp [hlt]
    rw [e1] at hS2
    refine wpAny_pure ⟨plainId_quiet F.plain_set_update_loop _, ih (i + 1) _ (by lia) hlt ?_ ?_ hS2 fun h3 tk k3 hS3 => ?_⟩
    · obtain ⟨o, ho, r⟩ := hit'
      exact ⟨o, (hs2.2 I (Ne.symm hSI)).trans ho, r⟩
    · obtain ⟨o, ho, r⟩ := hl
      exact ⟨o, (hs2.2 l hlS).trans ((hs.2 l hlI).trans ho), r⟩
    · refine hR h3 tk (fun b o hbS hbI e => k3 b o hbS hbI ?_) hS3
      show h2.get? b = some o
      rw [hs2.2 b hbS, hs.2 b hbI]; exact e

theorem set_init_run {S : Addr} {nl : Nat} {led : Bool} {R : Fin → Shared → Prop} (hS : s.heap.get? S = some { cls := .type "set", dict := none, data := .set #[] 0 (.fresh 0 0 led) }) (hol : s.heap.get? a = some { cls := .type "list", dict := none, data := .seq vs.toArray nl, slots := #[] })
    (h : codeAny (model prog w) A (.builtin "set.update.loop" ⟨[.ref S, .ref s.heap.objs.size], []⟩) (fun r s' => match r with | .ok (.ret _) => R (.done (.ret .none)) s' | .ok _ => False | .error e => E e s') { s with heap := s.heap.push { cls := .type "list_iterator", data := .fields #[.ref a, .int 0 0] } }) :
    wpAny (model prog w) A (Builtin.«set.__init__» ⟨[.ref S, .ref a], []⟩) R E s := by
  have hsls := PySem.F.sub_list_set
  have hslf := PySem.F.sub_list_frozenset
  have hne : (Value.type "list" == Value.type "dict") = false := by decide
  have hl1 : s.heap.IsList a vs.toArray := ⟨_, hol, rfl, nl, rfl⟩
  unfold Builtin.«set.__init__» noKeywords Builtin.Frozenset.updateFrom
  generalize hPI : pyIter = PI
  wp_walk
  subst hPI
  refine wpAny_pyIter_list hl1 ?_
  refine wpAny_bind (wpAny_runValue ?_)
  refine codeAny_mono h fun r s' hr => ?_
  cases r with
  | error e => exact hr
  | ok fl =>
    cases fl with
    | ret v => exact wpAny_pure (wpAny_pure hr)
    | _ => exact hr.elim
set_option maxHeartbeats 3200000 in
theorem call_set_core {a : Value} {R1 : Shared → Prop} {Q : Value → Shared → Prop}
    (hrun : codeAny (model prog w) A.in1 (.call (.builtin "set.__init__") ⟨[.ref s.heap.objs.size, a], []⟩) (wants (fun r s₂ => r = .none ∧ R1 s₂) E) { s with heap := s.heap.push (emptySet w) })
    (hq : ∀ s₂, R1 s₂ → Q (.ref s.heap.objs.size) s₂) : wpAny (model prog w) A (call (.type "set") [a]) Q E s := by
  obtain ⟨c, tl, hmro⟩ := PySem.F.called_set.mro
  have hmade := PySem.F.called_set.made
  have hsub := PySem.F.called_set.sub
  refine wpAny_call (codeAny_of_tree ?_)
  show wpAny _ _ (callAny (.type "set") _) _ _ _
  refine wpAny_pure ⟨Code.quiet_builtin _ (by decide +kernel), codeAny_builtin PySem.F.entry_type_call ?_⟩
  rw [Around.under_plain (weight_type_call_type "set" [a] []) rfl]
  have h1 := PySem.F.called_set.notType
  have h2 := PySem.F.called_set.canCreate
  have hct := PySem.F.typeCall_set_1 a
  repeat (any_goals (first | assumption | wp_step))
  refine codeAny_mono (code_set_newX a (E := E) (Q₁ := fun obj s₁ => obj = .ref s.heap.objs.size ∧ s₁ = { s with heap := s.heap.push (emptySet w) }) ⟨rfl, rfl⟩) fun r s₁ hr => ?_
  cases r with
  | error e => exact hr
  | ok fl =>
    cases fl with
    | ret obj =>
      obtain ⟨rfl, rfl⟩ := hr
      have hS : (s.heap.push (emptySet w)).get? s.heap.objs.size = some (emptySet w) := Heap.get?_push_size _ rfl
      have hT : Shared.TypeIs { s with heap := s.heap.push (emptySet w) } (.ref s.heap.objs.size) "set" := ⟨_, hS, rfl⟩
      have hli := PySem.F.called_set.init.lookup
      have hbi := PySem.F.called_set.init.bind (.ref s.heap.objs.size)
      repeat (any_goals (first | assumption | wp_step))
      refine codeAny_mono hrun fun r₂ s₂ hr₂ => ?_
      cases r₂ with
      | error e => exact hr₂
      | ok fl₂ =>
        cases fl₂ with
        | ret r =>
          obtain ⟨rfl, hr1⟩ := hr₂
          repeat (any_goals (first | assumption | wp_step))
          exact hq _ hr1
        | _ => exact hr₂.elim
    | _ => exact hr.elim

theorem call_set_strs {Q : Value → Shared → Prop} (hh : A.handled = none) (S₀ : St B os s l) (x : At s.heap a (IsL vs)) (hx : StrsOf vs xs) (hnd : xs.Nodup) (hb : xs.length + 1 < scanBound)
    (h : ∀ D s', St B os s' ((D, SetA prog w xs) :: l) → Q (.ref D) s') : wpAny (model prog w) A (call (.type "set") [.ref a]) Q E s := by
  have hS : (s.heap.push (emptySet w)).get? s.heap.objs.size = some (emptySet w) := Heap.get?_push_size _ rfl
  have hT : Shared.TypeIs { s with heap := s.heap.push (emptySet w) } (.ref s.heap.objs.size) "set" := ⟨_, hS, rfl⟩
  refine call_set_core (R1 := fun s₂ => ∃ h' tk, s₂ = { s with heap := h', toks := tk } ∧ At h' s.heap.objs.size (SetA prog w xs) ∧ Sub s.heap h')
    (codeAny_call_builtin PySem.F.called_set.init.plain PySem.F.entry_set_init (check_set_init_1 hT ?_)) ?_
  · have hl := x.list
    obtain ⟨ol, hol, nl, rfl⟩ := x
    have hol' : (s.heap.push (emptySet w)).get? a = some { cls := .type "list", dict := none, data := .seq vs.toArray nl, slots := #[] } := Heap.get?_push_of_some _ hol
    have hl1 : (s.heap.push (emptySet w)).IsList a vs.toArray := ⟨_, hol', rfl, nl, rfl⟩
    have hlS : a < s.heap.objs.size := Heap.lt_size hol
    have hsz : (s.heap.push (emptySet w)).objs.size = s.heap.objs.size + 1 := Heap.size_push ..
    refine set_init_run (nl := nl) (led := !byTextW w) hS hol' ?_
    refine set_fill (vs := vs) (by simp [hh]) (s.heap.push (emptySet w)).objs.size s.heap.objs.size a (by rw [hsz]; exact Nat.ne_of_lt (Nat.lt_succ_self _)) (Nat.ne_of_lt hlS) (by rw [hsz]; exact Nat.ne_of_lt (Nat.lt_succ_of_lt hlS)) hx hnd hb xs.length 0 _ (by lia) (by lia)
      ?hI0 ?hl0 ?hS0 (fun h' tk k3 hS3 => ?_)
    case hI0 => exact ⟨_, Heap.get?_push_size _ rfl, rfl, rfl⟩
    case hl0 => exact hl1.push _
    case hS0 => exact ⟨_, Heap.get?_push_of_some _ hS, emptySet_is prog w⟩
    exact ⟨rfl, h', tk, rfl, hS3, fun b o e => k3 b o (Nat.ne_of_lt (Heap.lt_size e)) (by rw [hsz]; exact Nat.ne_of_lt (Nat.lt_succ_of_lt (Heap.lt_size e))) (Heap.get?_push_of_some _ (Heap.get?_push_of_some _ e))⟩
  · rintro s₂ ⟨h', tk, rfl, hS', hk'⟩
    exact h _ _ (S₀.new hk' (size_none _) hS')
end
/-! text Fw9 -/
theorem eraseIdx_perm {α : Type} : ∀ (l : List α) (i : Nat) (h : i < l.length), (l[i] :: l.eraseIdx i).Perm l
  | x :: r, 0, _ => .refl _
  | x :: r, i + 1, h => by
    have := eraseIdx_perm r i (by simpa using h)
    rw [List.getElem_cons_succ, List.eraseIdx_cons_succ]
    exact (List.Perm.swap _ _ _).trans (.cons _ this)
theorem pick_go_perm {α : Type} (next : Nat → Nat) : ∀ (fuel k : Nat) (left : List α) (out : Array α), fuel = left.length → (pickOrder.go next fuel k left out).toList.Perm (out.toList ++ left) := by
  intro fuel
  induction fuel with
  | zero => intro k left out h; rw [List.length_eq_zero_iff.mp h.symm]; simp [pickOrder.go]
  | succ f ih =>
    intro k left out h
    have hlt : next k % left.length < left.length := Nat.mod_lt _ (by lia)
    simp only [pickOrder.go]
    rw [List.getElem?_eq_getElem hlt]
    dsimp only
    refine (ih _ _ _ (by rw [List.length_eraseIdx_of_lt hlt]; lia)).trans ?_
    rw [Array.toList_push, List.append_assoc]
    refine List.Perm.append_left _ ?_
    exact eraseIdx_perm _ _ hlt
theorem pickOrder_perm {α : Type} (next : Nat → Nat) (xs : Array α) : (pickOrder next xs).toList.Perm xs.toList := by
  unfold pickOrder
  exact (pick_go_perm next _ _ _ _ (by simp)).trans (by simp)

section
variable {prog : Program} {w : World} {A : Around} {E : Value → Shared → Prop} {s : Shared}
theorem wpAny_choose {M : Model} {src : Source} {n : Nat} {Q : Nat → Shared → Prop} (hn : n ≠ 0) (h : ∀ i d, i < n → Q i { s with drawn := d }) : wpAny M A (choose src n) Q E s :=
  fun Γ p _ => by
    show Sem.wp M Γ (.choose src n .pure) _ _ p s
    rw [Sem.wp_choose]
    exact ⟨hn, h _ _ (Nat.mod_lt _ (Nat.pos_of_ne_zero hn))⟩
theorem wpAny_drawOrder {α : Type} {M : Model} : ∀ (n : Nat) (xs : List α) (s : Shared) (Q : List α → Shared → Prop), n = xs.length → (∀ ys d, ys.Perm xs → Q ys { s with drawn := d }) → wpAny M A (drawOrder n xs) Q E s := by
  intro n
  induction n with
  | zero =>
    intro xs s Q h hQ
    rw [List.length_eq_zero_iff.mp h.symm] at hQ ⊢
    exact wpAny_pure (by have := hQ [] s.drawn (.refl _); exact this)
  | succ n ih =>
    intro xs s Q h hQ
    cases xs with
    | nil => cases h
    | cons y ys =>
      rw [drawOrder]
      · refine wpAny_bind (wpAny_choose (by simp) fun i d hi => ?_)
        rw [List.getElem?_eq_getElem hi]
        dsimp only
        refine wpAny_bind (ih _ _ _ (by rw [List.length_eraseIdx_of_lt hi]; simp at h ⊢; lia) fun zs d' hz => wpAny_pure ?_)
        exact hQ _ d' ((List.Perm.cons _ hz).trans (eraseIdx_perm _ _ hi))
      · simp
end

theorem owner_si : Manifest.owners.lookup (String.ofList ['r', 'o', 't', 'a', 'r', 'e', 't', 'i', '_', 't', 'e', 's'].reverse) = some Manifest.sig_set_iterator := by kernel_rfl
theorem slot_si_next : Slot "set_iterator" "__next__" "set_iterator.__next__" :=
  .of (owner := "set_iterator") (n := "__next__") (by rw [typeLookup_type, builtinLookup_eq_fast]; kernel_rfl) (by decide +kernel) (by decide +kernel) (by decide +kernel)
    (by first | exact .inl (by decide +kernel) | exact .inr (by decide +kernel)) (by rw [isSubtype_type]; kernel_rfl)
theorem entry_si_next : entryFor table "set_iterator.__next__" = some Builtin.«set_iterator.__next__» := entryFor_of_tree (by kernel_rfl)
theorem args_si_next (a : Value) : argsOk "set_iterator.__next__" ⟨[a], []⟩ := by
  unfold argsOk; rw [signature?_of (id := "set_iterator.__next__") (n := ['_', '_', 't', 'x', 'e', 'n', '_', '_']) (o := ['r', 'o', 't', 'a', 'r', 'e', 't', 'i', '_', 't', 'e', 's']) (by kernel_rfl) owner_si]; kernel_rfl
theorem entry_set_iter : entryFor table "set.__iter__" = some Builtin.«frozenset.__iter__» :=
  entryFor_alias (id' := "frozenset.__iter__") (by kernel_rfl) rfl (by decide +kernel) (by kernel_rfl)

/-- the set's own object, its entries told -/
structure SetX (prog : Program) (w : World) (h : Heap) (a : Addr) (ks : List Str) (o : Obj) (es : Array (Int × Value)) (ep : Nat) (t : SetTable) : Prop where
  get : h.get? a = some o
  ex : o.ExactSet
  data : o.data = .set es ep t
  el : ElemsOf (strKind prog w) es.toList
  mem : ∀ k, k ∈ ks ↔ ∃ e ∈ es.toList, Value.isStrOf k e.2 = true
  fits : t.fits es.size = true
  led : byTextW w = true ∨ t.led = true
  plain : ks = [] ∨ t.plain = false
  size : es.size = ks.length
theorem SetX.of {prog : Program} {w : World} {h : Heap} {a : Addr} {ks : List Str} (x : At h a (SetA prog w ks)) : ∃ o es ep t, SetX prog w h a ks o es ep t := by
  obtain ⟨o, ho, hex, es, ep, t, hd, hel, hm, hb, hf, hl, hp, hn⟩ := x
  exact ⟨o, es, ep, t, ho, hex, hd, hel, hm, hf, hl, hp, hn⟩

noncomputable def itObj (first : Value) (i : Nat) (ms : Addr) (n ep : Nat) : Obj := { cls := .type "set_iterator", dict := none, data := .fields #[first, rawInt i, .ref ms, rawInt n, rawInt ep], slots := #[] }
/-- where the walk over the set stands -/
noncomputable def SMode (w : World) (h : Heap) (ms : Addr) (es : Array (Int × Value)) (ep : Nat) (t : SetTable) (first : Value) (i : Nat) (ord : List Value) : Prop :=
  (byTextW w = true ∧ (∃ slot : Nat, first = rawInt slot) ∧ ord = (pickOrder (w.params.setOrder ms ep) es).toList.map (·.2)) ∨
  (byTextW w = false ∧ (∃ (T : Addr) (places : List Nat) (o : Obj) (n : Nat), first = .ref T ∧ h.get? T = some o ∧ o.data = .seq (places.map fun (j : Nat) => rawInt j).toArray n ∧ places.Perm (List.range es.size) ∧ ord = places.map fun j => (es.toList.getD j (0, .none)).2)) ∨
  (byTextW w = false ∧ es.size ≤ 1 ∧ ord = es.toList.map (·.2) ∧ ((i = 0 ∧ first = rawInt 0) ∨ (1 ≤ i ∧ ∃ j : Nat, t.place[0]? = some j ∧ first = rawInt ((j + 1 : Nat) : Int))))
theorem SMode.ord_mem {w : World} {h : Heap} {ms : Addr} {es : Array (Int × Value)} {ep : Nat} {t : SetTable} {first : Value} {i : Nat} {ord : List Value} (m : SMode w h ms es ep t first i ord) : ord.Perm (es.toList.map (·.2)) := by
  rcases m with ⟨_, _, rfl⟩ | ⟨_, T, places, o, n, _, _, _, hp, rfl⟩ | ⟨_, _, rfl, _⟩
  · exact (pickOrder_perm _ _).map _
  · refine (hp.map _).trans ?_
    have : List.map (fun j => (es.toList.getD j (0, .none)).2) (List.range es.size) = es.toList.map (·.2) := by
      apply List.ext_getElem
      · simp
      · intro k h1 h2
        simp at h1 h2
        simp [h1]
    rw [this]
  · exact .refl _
/-! text FwA -/
section
variable {prog : Program} {w : World} {A : Around} {E : Value → Shared → Prop} {s : Shared} {ms I : Addr} {ks : List Str} {o : Obj} {es : Array (Int × Value)} {ep : Nat} {t : SetTable}
theorem SetX.typeIs (X : SetX prog w s.heap ms ks o es ep t) : s.TypeIs (.ref ms) "set" := ⟨o, X.get, X.ex.1⟩

theorem si_iter {Q : Value → Shared → Prop} (X : SetX prog w s.heap ms ks o es ep t) (hk : ks ≠ []) (hz : ks.length ≤ 1000)
    (h : ∀ I first ord h' d, Sub s.heap h' → s.heap.get? I = none → h'.get? I = some (itObj first 0 ms es.size ep) → SMode w h' ms es ep t first 0 ord → (∀ T, first = .ref T → s.heap.get? T = none ∧ T ≠ I) →
      Q (.ref I) { s with heap := h', drawn := d }) : wpAny (model prog w) A (pyIter (.ref ms)) Q E s := by
  refine wpAny_pyIter_slot X.typeIs PySem.F.slot_set_iter (wpAny_call_entry PySem.F.slot_set_iter X.typeIs entry_set_iter ?_ (PySem.F.args_set_iter_1 _))
  unfold Builtin.«frozenset.__iter__» Builtin.Frozenset.slot0 slotArgs
  simp only [List.isEmpty_nil, Bool.not_true, Bool.false_eq_true, ↓reduceIte, bind_assoc, List.length_nil, bne_self_eq_false]
  unfold Builtin.Frozenset.addrOf Builtin.Frozenset.sizeOf
  refine wpAny_bind (wpAny_pure ?_)
  try dsimp only
  refine wpAny_bind (wpAny_pure ?_)
  refine wpAny_bind (wpAny_bind (wpAny_setEntries_of X.get X.data X.fits (wpAny_pure ?_)))
  unfold setDrawn setsByText
  simp only [bind_assoc]
  refine wpAny_bind (wpAny_setState_of X.get X.data X.fits ?_)
  dsimp only
  refine wpAny_bind (wpAny_askSetting ?_)
  dsimp only
  refine wpAny_bind (wpAny_pure (wpAny_bind (wpAny_pure ?_)))
  show wpAny _ _ (if (!byTextW w && (!t.plain && decide (es.size > 1))) = true then _ else _) _ _ _
  have hp : t.plain = false := X.plain.resolve_left hk
  have hz' : es.size ≤ 1000 := by rw [X.size]; exact hz
  have fin : ∀ (first : Value) (ord : List Value) (s₁ : Shared) (d : Drawn), s₁ = { s with heap := s₁.heap, drawn := d } → Sub s.heap s₁.heap → SMode w s₁.heap ms es ep t first 0 ord → (∀ T, first = .ref T → s.heap.get? T = none ∧ ∃ o, s₁.heap.get? T = some o) →
      wpAny (model prog w) A.in1 (do
          let e ← setEpoch ms
          let r ← newFields "set_iterator" [first, rawInt 0, Value.ref ms, rawInt es.size, rawInt e]
          ret r) (fun fin s' => ∃ v, fin = Fin.done (Flow.ret v) ∧ ∃ T' r, s'.TypeIs v T' ∧ typeLookup (Value.type T') (Str.ofString "__next__") = pure (some r) ∧ Q v s') E s₁ := by
    intro first ord s₁ d hs k m hT
    have X1 : s₁.heap.get? ms = some o := k _ _ X.get
    refine wpAny_bind (wpAny_setEpoch_of X1 X.data X.fits ?_)
    refine wpAny_bind (wpAny_newObj_type (wpAny_pure ⟨_, rfl, "set_iterator", _, ⟨_, Heap.get?_push_size _ rfl, rfl⟩, slot_si_next.lookup, ?_⟩))
    have hnone : s.heap.get? s₁.heap.objs.size = none := by
      cases q : s.heap.get? s₁.heap.objs.size with
      | none => rfl
      | some o' => have := k _ _ q; rw [size_none] at this; cases this
    have := h s₁.heap.objs.size first ord (s₁.heap.push (itObj first 0 ms es.size ep)) d (k.trans (Sub.push _)) hnone (Heap.get?_push_size _ rfl) ?_ ?_
    · rw [hs] at this ⊢; exact this
    · rcases m with m | ⟨m1, T, pl, oT, n, m2, m3, m4, m5, m6⟩ | m
      · exact .inl m
      · exact .inr (.inl ⟨m1, T, pl, oT, n, m2, Heap.get?_push_of_some _ m3, m4, m5, m6⟩)
      · exact .inr (.inr m)
    · intro T e
      obtain ⟨h1, o', h2⟩ := hT T e
      exact ⟨h1, Nat.ne_of_lt (Heap.lt_size h2)⟩
  by_cases hb : byTextW w = true
  · rw [if_neg (by rw [hb]; simp)]
    refine wpAny_bind (wpAny_pure ?_)
    exact fin _ _ s s.drawn rfl Sub.rfl (.inl ⟨hb, ⟨0, rfl⟩, rfl⟩) (fun T e => by cases e)
  · have hb' : byTextW w = false := by simpa using hb
    by_cases hs : es.size > 1
    · rw [if_pos (by rw [hb', hp]; simp [hs])]
      refine wpAny_bind (wpAny_drawOrder _ _ _ _ (by simp) fun ys d hys => ?_)
      have hlen : ys.length ≤ 1000 := by rw [hys.length_eq, List.length_range]; exact hz'
      refine wpAny_bind (m := newTuple _) (wpAny_newObj_type ?_ (by show (List.map (fun (i : Nat) => rawInt i) ys).toArray.size ≤ sizeLine; rw [List.size_toArray, List.length_map, sizeLine_eq]; lia))
      exact fin (.ref s.heap.objs.size) _ _ d rfl (Sub.push _) (.inr (.inl ⟨hb', _, ys, _, 0, rfl, Heap.get?_push_size _ rfl, rfl, hys, rfl⟩)) (fun T e => by cases e; exact ⟨size_none _, _, Heap.get?_push_size _ rfl⟩)
    · rw [if_neg (by rw [hb', hp]; simp; lia)]
      refine wpAny_bind (wpAny_pure ?_)
      exact fin _ _ s s.drawn rfl Sub.rfl (.inr (.inr ⟨hb', by lia, rfl, .inl ⟨rfl, rfl⟩⟩)) (fun T e => by cases e)
end
/-! text FwB -/
section
variable {prog : Program} {w : World} {A : Around} {E : Value → Shared → Prop} {s : Shared} {ms I : Addr} {ks : List Str} {o : Obj} {es : Array (Int × Value)} {ep : Nat} {t : SetTable} {first : Value} {i : Nat} {ord : List Value} {v : Value}
theorem raise_stop {A₀ : Around} {Q : Option Value → Shared → Prop} {h₁ : Heap} (hh : A.handled = none) (k : Heap.ExtBut I s.heap h₁)
    {R : PySem.Fin → Shared → Prop} (h : ∀ h', Heap.ExtBut I s.heap h' → Q none { s with heap := h' }) :
    wpAny (model prog w) A (newExc (.type "StopIteration") [] >>= fun e => (raiseNew e : Sem PySem.Fin)) R (fun e s' => wpAny (model prog w) A₀ (do
          let b ← isInstance e (Value.type "StopIteration")
          if b = true then pure none else throw e) Q E s') { s with heap := h₁ } := by
  refine wpAny_bind ?_
  simp only [newExc, newTuple]
  refine wpAny_bind (wpAny_newObj_type ?_ (by size_fits))
  refine wpAny_bind (m := firstArgMember _ _) (wpAny_of_eq (a := Value.none) (by first | rfl | (simp only [firstArgMember]; rfl)) ?_)
  refine wpAny_newObj_type ?_ (by size_fits)
  simp only [raiseNew]
  refine wpAny_bind (wpAny_handled ?_)
  rw [hh]
  refine wpAny_bind (wpAny_pure (wpAny_throw ?_))
  refine wpAny_bind (wpAny_isInstance (T := "StopIteration") (b := true) ⟨_, Heap.get?_push_size _ rfl, rfl⟩ isSubtype_stop ?_)
  exact wpAny_pure (h _ ((k.push _).push _))

theorem below_one {p : Array Nat} {j : Nat} (hp : p.size = 1) (hj : p[0]? = some j) : SetTable.below p 0 = 0 ∧ SetTable.below p (j + 1) = 1 := by
  unfold SetTable.below
  rw [hp]
  have e0 : ∀ d, p.getD 0 d = j := by intro d; rw [Array.getD_eq_getD_getElem?, hj]; rfl
  constructor
  · simp [SetTable.below.go, e0]
  · simp [SetTable.below.go, e0]

theorem sn_text {slot i : Nat} {Q : Option (Value × Nat) → Shared → Prop} (X : SetX prog w s.heap ms ks o es ep t) (hb : byTextW w = true)
    (h : Q (((pickOrder (w.params.setOrder ms ep) es)[i]?).map fun e => (e.2, slot)) s) : wpAny (model prog w) A (setNext ms slot i ep) Q E s := by
  unfold setNext setWalk setsByText
  simp only [bind_assoc]
  refine wpAny_bind (wpAny_setState_of X.get X.data X.fits ?_)
  dsimp only
  refine wpAny_bind (wpAny_askSetting (wpAny_bind (wpAny_pure ?_)))
  rw [if_pos (show (model prog w).w.params.followText "set-order" = true from hb)]
  simp only [bne_self_eq_false, Bool.false_eq_true, if_false]
  refine wpAny_bind (wpAny_setState_of X.get X.data X.fits ?_)
  dsimp only
  refine wpAny_bind (wpAny_askSetting (wpAny_bind (wpAny_pure ?_)))
  rw [if_pos (show (model prog w).w.params.followText "set-order" = true from hb)]
  exact wpAny_bind (wpAny_bind (wpAny_askSetting (wpAny_pure (wpAny_pure h))))
theorem sn_one {slot i : Nat} {Q : Option (Value × Nat) → Shared → Prop} (X : SetX prog w s.heap ms ks o es ep t) (hb : byTextW w = false) (hz : es.size ≤ 1)
    (h : Q (match es[SetTable.below t.place slot]?, t.place[SetTable.below t.place slot]? with | some (_, x), some j => some (x, j + 1) | _, _ => none) s) : wpAny (model prog w) A (setNext ms slot i ep) Q E s := by
  have hl : t.led = true := X.led.resolve_left (by rw [hb]; simp)
  unfold setNext setsByText
  simp only [bind_assoc]
  refine wpAny_bind (wpAny_setState_of X.get X.data X.fits ?_)
  dsimp only
  refine wpAny_bind (wpAny_askSetting (wpAny_bind (wpAny_pure ?_)))
  rw [if_neg (show ¬ (model prog w).w.params.followText "set-order" = true from by show ¬ byTextW w = true; rw [hb]; simp)]
  show wpAny _ _ (if (!t.plain && decide (es.size > 1)) = true then _ else _) _ _ _
  rw [if_neg (by simp; omega)]
  show wpAny _ _ ((if (!t.led && !es.isEmpty) = true then unsupported "set:maker-not-led" else pure ()) >>= _) _ _ _
  rw [if_neg (by rw [hl]; simp)]
  exact wpAny_bind (wpAny_pure (wpAny_pure h))

set_option maxHeartbeats 1000000 in
theorem si_next {Q : Option Value → Shared → Prop} (X : SetX prog w s.heap ms ks o es ep t) (hk : ks ≠ []) (hI : s.heap.get? I = some (itObj first i ms es.size ep)) (m : SMode w s.heap ms es ep t first i ord) (hv : ord[i]? = some v)
    (hIT : ∀ T, first = .ref T → T ≠ I)
    (h : ∀ first' h', Heap.SameBut I s.heap h' → h'.get? I = some (itObj first' (i + 1) ms es.size ep) → SMode w h' ms es ep t first' (i + 1) ord → (∀ T, first' = .ref T → first = .ref T) → Q (some v) { s with heap := h' }) :
    wpAny (model prog w) A (pyNext (.ref I)) Q E s := by
  have hT : s.TypeIs (.ref I) "set_iterator" := ⟨_, hI, rfl⟩
  have hp : t.plain = false := X.plain.resolve_left hk
  unfold pyNext
  refine wpAny_bind (wpAny_attempt (wpAny_callSpecial?_slot (name := Str.ofString "__next__") hT slot_si_next
    (wpAny_call_entry slot_si_next hT entry_si_next ?_ (args_si_next _))))
  unfold Builtin.«set_iterator.__next__»
  refine wpAny_bind (wpAny_of_eq (a := (Value.ref I, [])) rfl ?_)
  dsimp only
  refine wpAny_bind (wpAny_fieldsOf hI rfl ?_)
  dsimp only [rawInt]
  refine wpAny_bind (wpAny_setEntries_of X.get X.data X.fits ?_)
  simp only [bne_self_eq_false, Bool.false_eq_true, if_false]
  rcases m with ⟨mb, ⟨slot, rfl⟩, mo⟩ | ⟨mb, T, places, oT, n, rfl, mT, md, mp, mo⟩ | ⟨mb, mz, mo, mf⟩
  · dsimp only [rawInt]
    refine wpAny_bind (sn_text X mb ?_)
    have hv' : ((pickOrder (w.params.setOrder ms ep) es)[i]?).map (·.2) = some v := by rw [mo] at hv; simpa using hv
    obtain ⟨e, he, rfl⟩ := Option.map_eq_some_iff.mp hv'
    rw [show ((i : Nat) : Int).toNat = i from rfl, show ((ep : Nat) : Int).toNat = ep from rfl, he]
    dsimp only [Option.map]
    refine wpAny_bind (wpAny_setField_rec hI (by simp) fun h1 g1 s1 => ?_)
    refine wpAny_bind (wpAny_setField_rec g1 (by simp) fun h2 g2 s2 => ?_)
    exact wpAny_pure ⟨_, rfl, wpAny_pure (h (rawInt slot) h2 (s1.trans s2) g2 (.inl ⟨mb, ⟨slot, rfl⟩, mo⟩) (fun T e => by cases e))⟩
  · dsimp only
    refine wpAny_bind (wpAny_seqItems mT md ?_)
    have hvi : ∃ j, places[i]? = some j ∧ (es.toList.getD j (0, .none)).2 = v := by
      rw [mo, List.getElem?_map] at hv
      exact Option.map_eq_some_iff.mp hv
    obtain ⟨j, hj, hjv⟩ := hvi
    have hjs : j < es.size := by have := mp.mem_iff.mp (List.mem_of_getElem? hj); simpa using this
    have ej : es[j]? = some es[j] := Array.getElem?_eq_getElem hjs
    have hjv' : es[j].2 = v := by
      rw [← hjv, List.getD_eq_getElem?_getD, Array.getElem?_toList, ej]; rfl
    simp only [Int.toNat_natCast, List.getElem?_toArray, List.getElem?_map, hj, Option.map_some, rawInt]
    unfold setNextDrawn
    simp only [bind_assoc]
    refine wpAny_bind (wpAny_setState_of X.get X.data X.fits ?_)
    simp only [bne_self_eq_false, Bool.false_eq_true, if_false]
    rw [ej]
    dsimp only
    refine wpAny_bind (wpAny_pure ?_)
    refine wpAny_bind (wpAny_setField_rec hI (by simp) fun h1 g1 s1 => ?_)
    refine wpAny_pure ⟨_, rfl, wpAny_pure ?_⟩
    rw [hjv']
    exact h (.ref T) h1 s1 g1 (.inr (.inl ⟨mb, T, places, oT, n, rfl, (s1.2 T (hIT T rfl)).trans mT, md, mp, mo⟩)) (fun T e => e)
  · have hlen : es.size = 1 := by
      have h1 := X.size
      have h2 : ks.length ≠ 0 := fun e => hk (List.length_eq_zero_iff.mp e)
      omega
    have hps : t.place.size = 1 := by have := X.fits; simp only [SetTable.fits, Bool.and_eq_true, beq_iff_eq] at this; rw [this.1, hlen]
    have hi0 : i = 0 := by
      rw [mo] at hv
      have := (List.getElem?_eq_some_iff.mp hv).1
      simp at this; omega
    subst hi0
    rcases mf with ⟨_, rfl⟩ | ⟨hc, _⟩
    · obtain ⟨j, hj⟩ : ∃ j, t.place[0]? = some j := ⟨t.place[0], Array.getElem?_eq_getElem (by omega)⟩
      have e0 : es[0]? = some es[0] := Array.getElem?_eq_getElem (by omega)
      dsimp only [rawInt]
      refine wpAny_bind (sn_one X mb mz ?_)
      rw [show (0 : Int).toNat = 0 from rfl, (below_one hps hj).1, e0, hj]
      dsimp only
      have hv' : es[0].2 = v := by rw [mo] at hv; simp at hv; obtain ⟨a, ha⟩ := hv; rw [e0] at ha; rw [Option.some.inj ha]
      refine wpAny_bind (wpAny_setField_rec hI (by simp) fun h1 g1 s1 => ?_)
      refine wpAny_bind (wpAny_setField_rec g1 (by simp) fun h2 g2 s2 => ?_)
      refine wpAny_pure ⟨_, rfl, wpAny_pure ?_⟩
      rw [hv']
      exact h (rawInt ((j + 1 : Nat) : Int)) h2 (s1.trans s2) g2 (.inr (.inr ⟨mb, mz, mo, .inr ⟨by omega, j, hj, rfl⟩⟩)) (fun T e => by cases e)
    · omega

set_option maxHeartbeats 1000000 in
theorem si_end {Q : Option Value → Shared → Prop} (hh : A.handled = none) (X : SetX prog w s.heap ms ks o es ep t) (hk : ks ≠ []) (hI : s.heap.get? I = some (itObj first i ms es.size ep)) (m : SMode w s.heap ms es ep t first i ord) (hv : ord[i]? = none)
    (h : ∀ h', Heap.ExtBut I s.heap h' → Q none { s with heap := h' }) : wpAny (model prog w) A (pyNext (.ref I)) Q E s := by
  have hT : s.TypeIs (.ref I) "set_iterator" := ⟨_, hI, rfl⟩
  have hp : t.plain = false := X.plain.resolve_left hk
  have hh1 : A.in1.handled = none := hh
  unfold pyNext
  refine wpAny_bind (wpAny_attempt (wpAny_callSpecial?_slot (name := Str.ofString "__next__") hT slot_si_next
    (wpAny_call_entry slot_si_next hT entry_si_next ?_ (args_si_next _))))
  unfold Builtin.«set_iterator.__next__»
  refine wpAny_bind (wpAny_of_eq (a := (Value.ref I, [])) rfl ?_)
  dsimp only
  refine wpAny_bind (wpAny_fieldsOf hI rfl ?_)
  dsimp only [rawInt]
  refine wpAny_bind (wpAny_setEntries_of X.get X.data X.fits ?_)
  simp only [bne_self_eq_false, Bool.false_eq_true, if_false]
  rcases m with ⟨mb, ⟨slot, rfl⟩, mo⟩ | ⟨mb, T, places, oT, n, rfl, mT, md, mp, mo⟩ | ⟨mb, mz, mo, mf⟩
  · dsimp only [rawInt]
    refine wpAny_bind (sn_text X mb ?_)
    have hv' : (pickOrder (w.params.setOrder ms ep) es)[i]? = none := by rw [mo] at hv; simpa using hv
    rw [show ((i : Nat) : Int).toNat = i from rfl, show ((ep : Nat) : Int).toNat = ep from rfl, hv']
    dsimp only [Option.map]
    refine wpAny_bind (wpAny_setField_rec hI (by simp) fun h1 g1 s1 => ?_)
    exact raise_stop hh1 s1.extBut h
  · dsimp only
    refine wpAny_bind (wpAny_seqItems mT md ?_)
    have hj : places[i]? = none := by rw [mo, List.getElem?_map] at hv; simpa using hv
    simp only [Int.toNat_natCast, List.getElem?_toArray, List.getElem?_map, hj, Option.map_none]
    refine wpAny_bind (wpAny_setField_rec hI (by simp) fun h1 g1 s1 => ?_)
    refine wpAny_bind (wpAny_setField_rec g1 (by simp) fun h2 g2 s2 => ?_)
    exact raise_stop hh1 (s1.trans s2).extBut h
  · have hlen : es.size = 1 := by
      have h1 := X.size
      have h2 : ks.length ≠ 0 := fun e => hk (List.length_eq_zero_iff.mp e)
      omega
    have hps : t.place.size = 1 := by have := X.fits; simp only [SetTable.fits, Bool.and_eq_true, beq_iff_eq] at this; rw [this.1, hlen]
    have hi1 : 1 ≤ i := by
      rw [mo] at hv
      have := List.getElem?_eq_none_iff.mp hv
      simp at this; omega
    rcases mf with ⟨h0, _⟩ | ⟨_, j, hj, rfl⟩
    · omega
    · dsimp only [rawInt]
      refine wpAny_bind (sn_one X mb mz ?_)
      have e1 : es[1]? = none := Array.getElem?_eq_none (by omega)
      rw [show (((j + 1 : Nat) : Int)).toNat = j + 1 from rfl, (below_one hps hj).2, e1]
      dsimp only
      refine wpAny_bind (wpAny_setField_rec hI (by simp) fun h1 g1 s1 => ?_)
      exact raise_stop hh1 s1.extBut h
end
/-! text FwC -/
section
variable {B B' : Heap} {os : OsState} {s : Shared} {l : Led} {a : Addr} {d : Drawn} {t : Nat} {h' : Heap}
theorem St.base (S : St B' os s l) (k : Sub B B') : St B os s l :=
  ⟨k.trans S.keep, S.has, fun p hp => by
    cases q : B.get? p.1 with
    | none => rfl
    | some o => have := S.fresh p hp; rw [k _ _ q] at this; exact absurd this (by simp), S.nd, S.gens, S.os⟩
/-- an object of nobody's changes -/
theorem St.other (S : St B os s l) (hB : B.get? a = none) (hl : a ∉ l.map (·.1)) (k : Heap.ExtBut a s.heap h') : St B os ⟨h', s.gens, d, t, s.os⟩ l :=
  ⟨fun b o e => k b o (fun q => by rw [q, hB] at e; cases e) (S.keep b o e), fun p hp => by
    obtain ⟨o, ho, hP⟩ := S.has p hp
    exact ⟨o, k _ _ (fun q => hl (by rw [← q]; exact List.mem_map_of_mem (f := (·.1)) hp)) ho, hP⟩, S.fresh, S.nd, S.gens, S.os⟩
/-- all that the ledger does not name, made the base -/
theorem St.wall (S : St B os s l) : Sub B (hideAll s.heap (l.map (·.1))) ∧ St (hideAll s.heap (l.map (·.1))) os s l :=
  ⟨fun b o e => hideAll_get _ (S.keep b o e) fun q => by
    obtain ⟨p, hp, rfl⟩ := List.mem_map.mp q
    rw [S.fresh p hp] at e; exact absurd e (by simp),
   fun b o e => of_hideAll _ e, S.has, fun p hp => hideAll_none _ (List.mem_map_of_mem hp), S.nd, S.gens, S.os⟩
end

/-- the end of a turn over a set -/
noncomputable def SetK (B B' : Heap) (os : OsState) (l : Led) (P : Prop) (Q : Flow → Shared → Prop) (f : Flow) (s : Shared) : Prop :=
  match f with
  | .next => St B' os s l ∧ P
  | .cont => St B' os s l ∧ P
  | .brk => False
  | .ret v => ∃ l', St B' os s l' ∧ (St B os s l' → Q (.ret v) s)

section
variable {prog : Program} {w : World} {A : Around} {E : Value → Shared → Prop} {s : Shared} {B : Heap} {os : OsState} {l : Led} {env : Env} {ms : Addr} {ks : List Str}
set_option maxHeartbeats 1000000 in
theorem f_set {target : Expr} {body : List Stmt} {Q : Flow → Shared → Prop} (P : Str → Prop) (hh : A.handled = none) (hk : ks ≠ []) (hz : ks.length ≤ 1000) (S : St B os s l) (hms : At B ms (SetA prog w ks))
    (turn : ∀ B' x tk s', Sub B B' → x ∈ ks → St B' os s' l → wpAny (model prog w) A (assign target env (.str x tk)) (fun _ s₂ => wpAny (model prog w) A (execs body env) (SetK B B' os l (P x) Q) (fun _ _ => False) s₂) (fun _ _ => False) s')
    (done : ∀ s', St B os s' l → (∀ x ∈ ks, P x) → Q .next s') (ht : ∀ I v, letOwnedTupleGo target (.ref I) v = pure () := by intro _ _; rfl) :
    wpAny (model prog w) A (pyIter (.ref ms)) (ForG prog w A E env target body Q) E s := by
  obtain ⟨o, es, ep, t, XB⟩ := SetX.of hms
  have Xat : ∀ {h : Heap}, Sub B h → SetX prog w h ms ks o es ep t := fun k => ⟨k _ _ XB.get, XB.ex, XB.data, XB.el, XB.mem, XB.fits, XB.led, XB.plain, XB.size⟩
  refine si_iter (Xat S.keep) hk hz fun I first ord h' d k hI gI m hT => ?_
  have S₁ : St B os ({ s with heap := h', drawn := d } : Shared) l := S.grow k
  have hBI : B.get? I = none := S.none_of hI
  have hlI : I ∉ l.map (·.1) := fun q => by
    obtain ⟨p, hp, rfl⟩ := List.mem_map.mp q
    obtain ⟨o', ho', _⟩ := S.has p hp
    rw [ho'] at hI; cases hI
  have hlT : ∀ T, first = .ref T → T ∉ l.map (·.1) := fun T e q => by
    obtain ⟨p, hp, rfl⟩ := List.mem_map.mp q
    obtain ⟨o', ho', _⟩ := S.has p hp
    rw [(hT _ e).1] at ho'; cases ho'
  have ordlen : ord.length = es.size := by rw [m.ord_mem.length_eq]; simp
  have hstr : ∀ v ∈ ord, ∃ x tk, v = .str x tk ∧ x ∈ ks := by
    intro v hv
    have := m.ord_mem.mem_iff.mp hv
    obtain ⟨e, he, rfl⟩ := List.mem_map.mp this
    obtain ⟨⟨x, hx, _⟩, _⟩ := XB.el e he
    obtain ⟨tk, hx'⟩ := Value.isStrOf_shape hx
    exact ⟨x, tk, hx', (XB.mem x).mpr ⟨e, he, hx⟩⟩
  refine f_for (fun i s => St B os s l ∧ ∃ first', s.heap.get? I = some (itObj first' i ms es.size ep) ∧ SMode w s.heap ms es ep t first' i ord ∧ (∀ T, first' = .ref T → T ∉ l.map (·.1) ∧ T ≠ I) ∧
      ∀ j x tk, j < i → ord[j]? = some (.str x tk) → P x) ord.length ⟨S₁, first, gI, m, fun T e => ⟨hlT T e, (hT T e).2⟩, fun j x tk hj => by lia⟩ ?_ ?_ (ht I)
  · rintro i s₁ hi ⟨S1, first', g1, m1, hT1, hP⟩
    obtain ⟨x, tk, hv, hx⟩ := hstr _ (List.getElem_mem hi)
    have hoi : ord[i]? = some (.str x tk) := by rw [List.getElem?_eq_getElem hi, hv]
    refine si_next (Xat S1.keep) hk g1 m1 hoi (fun T e => (hT1 T e).2) fun first2 h2 s2 g2 m2 hf2 => ?_
    have S2 : St B os ({ s₁ with heap := h2 } : Shared) l := S1.other hBI hlI s2.extBut
    obtain ⟨kB, SW⟩ := S2.wall
    refine ⟨_, rfl, wpAny_mono (turn _ x tk _ kB hx SW) (fun _ s3 h3 => wpAny_mono h3 (fun f s4 h4 => ?_) fun _ _ y => y) fun _ _ y => y⟩
    have fin : St (hideAll h2 (l.map (·.1))) os s4 l → P x → St B os s4 l ∧ ∃ first', s4.heap.get? I = some (itObj first' (i + 1) ms es.size ep) ∧ SMode w s4.heap ms es ep t first' (i + 1) ord ∧ (∀ T, first' = .ref T → T ∉ l.map (·.1) ∧ T ≠ I) ∧
        ∀ j x tk, j < i + 1 → ord[j]? = some (.str x tk) → P x := by
      intro S4 hPx
      refine ⟨S4.base kB, first2, S4.keep _ _ (hideAll_get _ g2 hlI), ?_, fun T e => hT1 T (hf2 T e), fun j y ty hj hy => ?_⟩
      · rcases m2 with m | ⟨q1, T, pl, oT, n, q2, q3, q4, q5, q6⟩ | m
        · exact .inl m
        · exact .inr (.inl ⟨q1, T, pl, oT, n, q2, S4.keep _ _ (hideAll_get _ q3 (hT1 T (hf2 T q2)).1), q4, q5, q6⟩)
        · exact .inr (.inr m)
      · by_cases hji : j = i
        · subst hji
          rw [hoi] at hy
          cases hy
          exact hPx
        · exact hP j y ty (by lia) hy
    cases f with
    | next => exact fin h4.1 h4.2
    | cont => exact fin h4.1 h4.2
    | brk => exact h4.elim
    | ret v =>
      obtain ⟨l', S4, kq⟩ := h4
      exact kq (S4.base kB)
  · rintro s₁ ⟨S1, first', g1, m1, hT1, hP⟩
    refine si_end hh (Xat S1.keep) hk g1 m1 (List.getElem?_eq_none (Nat.le_refl _)) fun h2 k2 => ⟨rfl, done _ (S1.other hBI hlI k2) fun x hx => ?_⟩
    obtain ⟨e, he, hxe⟩ := (XB.mem x).mp hx
    obtain ⟨tk, hx'⟩ := Value.isStrOf_shape hxe
    have hm : e.2 ∈ ord := m.ord_mem.mem_iff.mpr (List.mem_map_of_mem he)
    obtain ⟨j, hj, ej⟩ := List.getElem_of_mem hm
    exact hP j x tk hj (by rw [List.getElem?_eq_getElem hj, ej, hx'])
end
/-! text FwD -/
noncomputable def InstA (C dx : Addr) : Asn := fun o => o = instObj C dx
noncomputable def StrEs (es : List DictEntry) : Prop := ∀ e ∈ es, ∃ x t, e.key = .str x t
noncomputable def fnd (x : Str) (es : List DictEntry) : Option Value := (es.find? (·.key.isStr x)).map (·.val)
/-- an object's own dict: just these names -/
noncomputable def AttrA (at_ : List (Str × Value)) : Asn := fun o => ∃ es n, o = dictOf es n ∧ es.length ≤ at_.length ∧ StrEs es ∧ ∀ x, fnd x es = at_.lookup x
theorem isStr_str (x y : Str) (t : Tok) : (Value.str x t).isStr y = decide (x = y) := by
  show (x == y) = _
  by_cases h : x = y <;> simp [h]
theorem fnd_put (x : Str) (hsh : Int) (tk : Tok) (v : Value) (y : Str) : ∀ {es : List DictEntry}, StrEs es → fnd y (putL x hsh (.str x tk) v es) = if y = x then some v else fnd y es
  | [], _ => by
    by_cases h : y = x
    · subst h; simp [putL, fnd, isStr_str]
    · have : ¬ x = y := fun q => h q.symm
      simp [putL, fnd, isStr_str, h, this]
  | e :: r, hk => by
    obtain ⟨z, t, hz⟩ := hk e (.head _)
    have hr : StrEs r := fun e he => hk e (.tail _ he)
    have ih := fnd_put x hsh tk v y hr
    have h1 : e.key.isStr x = decide (z = x) := by rw [hz, isStr_str]
    have h2 : e.key.isStr y = decide (z = y) := by rw [hz, isStr_str]
    unfold putL
    by_cases hx : z = x
    · rw [h1, decide_eq_true hx, if_pos rfl]
      by_cases hy : z = y
      · have hyx : y = x := hy.symm.trans hx
        unfold fnd
        rw [List.find?_cons, show ({ hash := e.hash, key := e.key, val := v } : DictEntry).key.isStr y = true from by show e.key.isStr y = true; rw [h2]; exact decide_eq_true hy, if_pos hyx]
        rfl
      · have hyx : ¬ y = x := fun q => hy (hx.trans q.symm)
        unfold fnd
        rw [List.find?_cons, show ({ hash := e.hash, key := e.key, val := v } : DictEntry).key.isStr y = false from by show e.key.isStr y = false; rw [h2]; exact decide_eq_false hy, if_neg hyx, List.find?_cons, h2, decide_eq_false hy]
    · rw [h1, decide_eq_false hx, if_neg (by simp)]
      unfold fnd at ih ⊢
      rw [List.find?_cons, List.find?_cons, h2]
      by_cases hy : z = y
      · have hyx : ¬ y = x := fun q => hx (hy.trans q)
        simp [hy, hyx]
      · simp only [decide_eq_false hy]
        exact ih
theorem strEs_put (x : Str) (hsh : Int) (tk : Tok) (v : Value) : ∀ {es : List DictEntry}, StrEs es → StrEs (putL x hsh (.str x tk) v es)
  | [], _ => fun e he => by simp [putL] at he; subst he; exact ⟨x, tk, rfl⟩
  | e :: r, hk => by
    unfold putL
    split
    · intro e' he
      rcases List.mem_cons.mp he with rfl | he
      · exact hk e (.head _)
      · exact hk e' (.tail _ he)
    · intro e' he
      rcases List.mem_cons.mp he with rfl | he
      · exact hk _ (.head _)
      · exact strEs_put x hsh tk v (fun e he => hk e (.tail _ he)) e' he
theorem len_put (x : Str) (hsh : Int) (tk : Tok) (v : Value) : ∀ es : List DictEntry, (putL x hsh (.str x tk) v es).length ≤ es.length + 1
  | [] => by simp [putL]
  | e :: r => by
    unfold putL
    split
    · simp
    · have := len_put x hsh tk v r; simp; omega
theorem getL_of {es : List DictEntry} (hk : StrEs es) (x : Str) : getL x es = some (fnd x es) := by
  have hn : es.any (·.refKey) = false := by
    rw [List.any_eq_false]
    intro e he
    obtain ⟨z, t, hz⟩ := hk e he
    simp [DictEntry.refKey, hz]
  unfold getL fnd
  cases es.find? (·.key.isStr x) with
  | some e => rfl
  | none => simp [hn]

section
variable {prog : Program} {w : World} {A : Around} {E : Value → Shared → Prop} {s : Shared} {B : Heap} {os : OsState} {l : Led} {x C dx : Addr} {at_ : List (Str × Value)} {name : Str} {v : Value} {F : Asn → Led}
theorem inst_at {h : Heap} {es : List DictEntry} {n : Nat} (h1 : At h x (InstA C dx)) (h2 : h.get? dx = some (dictOf es n)) : InstAt h x (instObj C dx) C (some (dictOf es n)) := by
  obtain ⟨o, ho, rfl⟩ := h1
  exact ⟨ho, rfl, rfl, h2⟩
theorem g_attr {expr : Bool} {Q : Value → Shared → Prop} {attr : Option Value} (kb : KB w B) (S : St B os s l) (h1 : At s.heap x (InstA C dx)) (h2 : At s.heap dx (AttrA at_)) (hg : plainGet (KK w) C name = true) (hh : hasDictIn (KK w) C = true)
    (ha : findIn (KK w) (.ref C) name = some attr) (hn : noGet (KK w) attr = true) (hl : at_.lookup name = some v) (hv : handedIn v = true) (h : ∀ s', St B os s' l → Q v s') :
    wpAny (model prog w) A (getAttr (.ref x) name expr) Q E s := by
  obtain ⟨o, ho, es, n, rfl, _, hk, hf⟩ := h2
  exact get_value (kb.sub S.keep).k (inst_at h1 ho) (plainGet_of hg).1 (findObj_own hh ha hn (by rw [lookIn_dict, getL_of hk, hf, hl])) hv (h _ S.tok)
theorem m_inst {pl : Sem Bool} {Q : Value × List Value → Shared → Prop} {f : Addr} (kb : KB w B) (S : St B os s l) (h1 : At s.heap x (InstA C dx)) (h2 : At s.heap dx (AttrA at_)) (hg : plainGet (KK w) C name = true)
    (hf : findIn (KK w) (.ref C) name = some (some (.ref f))) (ht : isFn (KK w) (.ref f) = true) (hl : at_.lookup name = none) (h : Q (.ref f, [.ref x]) s) : wpAny (model prog w) A (getMethod (.ref x) name pl) Q E s := by
  obtain ⟨o, ho, es, n, rfl, _, hk, hfd⟩ := h2
  exact method_fn (kb.sub S.keep).k (inst_at h1 ho) (plainGet_of hg).1 (plainGet_of hg).2 hf (beq_iff_eq.mp ht) (by show (lookIn name (dictOf es n)).map _ = _; rw [lookIn_dict, getL_of hk, hfd, hl]; rfl) h

theorem osa_St {R : Result → Shared → Prop} {tk : Tok} (kb : KB w B) (S : St B os s l) (h1 : At s.heap x (InstA C dx)) (H : Hole dx (AttrA at_) F l) (hp : plainOver (KK w) C = true)
    (ht : takerIn (KK w) C name = some none) (hh : hasDictIn (KK w) C = true) (hz : at_.length < 900) (h : ∀ s', St B os s' (F (AttrA ((name, v) :: at_))) → R (.ok (.ret .none)) s') :
    codeAny (model prog w) A (.call (.builtin "object.__setattr__") ⟨[.ref x, .str name tk, v], []⟩) R s := by
  have X := (kb.sub S.keep).k
  have h2 := S.rd H.mem
  obtain ⟨o, ho, es, n, rfl, hlen, hk, hf⟩ := h2
  have I := inst_at h1 ho
  refine osa_open X I hp ht fun b => ?_
  obtain ⟨cd, hc, hd'⟩ := any_some hh
  have hx : s.heap.get? x = some (instObj C dx) := I.at_
  refine wpAny_bind (wpAny_pure (wpAny_bind (wpAny_bind (wpAny_loadPart hx (wpAny_bind ((looks_clsIn X hc).here ?_))))))
  rw [hd']
  refine wpAny_pure (a := some dx) (wpAny_bind (wpAny_pure (wpAny_bind ?_)))
  unfold nsSet
  refine wpAny_bind (wpAny_bind (wpAny_askSetting (wpAny_pure (wpAny_bind (wpAny_mkText (wpAny_bind (wpAny_loadPart ho ?_)))))))
  dsimp only
  have c : (!es.toArray.any (·.key.isStr name) && es.toArray.any (·.refKey)) = false := by
    have hn : es.any (·.refKey) = false := by
      rw [List.any_eq_false]
      intro e he
      obtain ⟨z, t, hz⟩ := hk e he
      simp [DictEntry.refKey, hz]
    rw [← Array.any_toList, ← Array.any_toList]
    simp [hn]
  rw [aRefKeyMayBeTheName_at, c]
  have e1 := putName_dict name (PyData.keyHash w.params name) (.str name s.toks) v es n
  refine wpAny_updatePart ho ?_
  have hlen' := len_put name (PyData.keyHash w.params name) s.toks v es
  have D' : (s.heap.update dx (Obj.putName name (PyData.keyHash w.params name) (.str name s.toks) v)).get? dx = some (dictOf (putL name (PyData.keyHash w.params name) (.str name s.toks) v es) (putN name es n)) := by
    have := Heap.get?_update_self (Obj.putName name (PyData.keyHash w.params name) (.str name s.toks) v) ho (by rw [e1]; rfl)
    rw [e1] at this; exact this
  refine wpAny_bind (wpAny_lookBehind D' (pastItsLine_dict (by rw [List.size_toArray, sizeLine_eq]; omega)) ?_)
  refine wpAny_pure (h _ (S.sameBut H (Heap.SameBut.update _ _ _) ⟨_, D', _, _, rfl, by simp; omega, strEs_put _ _ _ _ hk, fun y => ?_⟩))
  rw [fnd_put _ _ _ _ _ hk, List.lookup_cons]
  by_cases hy : y = name
  · simp [hy]
  · have : (y == name) = false := by simpa using hy
    rw [if_neg hy, this, hf]
theorem s_attr {Q : Unit → Shared → Prop} (kb : KB w B) (S : St B os s l) (h1 : At s.heap x (InstA C dx)) (H : Hole dx (AttrA at_) F l) (hs : findIn (KK w) (.ref C) "__setattr__" = some (some (.builtin "object.__setattr__"))) (hp : plainOver (KK w) C = true)
    (ht : takerIn (KK w) C name = some none) (hh : hasDictIn (KK w) C = true) (hz : at_.length < 900) (h : ∀ s', St B os s' (F (AttrA ((name, v) :: at_))) → Q () s') :
    wpAny (model prog w) A (setAttr (.ref x) name v) Q E s := by
  have X := (kb.sub S.keep).k
  have h2 := S.rd H.mem
  obtain ⟨o, ho, es, n, rfl, hlen, hk, hf⟩ := h2
  exact set_plain X (inst_at h1 ho) hs (osa_St (s := { s with toks := s.toks + 1 }) kb S.tok h1 H hp ht hh hz h)

theorem new_inst {rest : List Value} {fI : Addr} {k : Nat} {Q : Value → Shared → Prop} (Cc : Cx A (k + 1)) (kb : KB w B) (S : St B os s l) (hm : makesIn (KK w) C = true) (hi : findIn (KK w) (.ref C) "__init__" = some (some (.ref fI))) (hf : isFn (KK w) (.ref fI) = true)
    (h : ∀ A' x dx s', Cx A' k → St B os s' ((x, InstA C dx) :: (dx, AttrA []) :: l) → codeAny (model prog w) A' (.call (.ref fI) ⟨.ref x :: rest, []⟩) (InitBack x fun r s' => match r with | .ok (.ret v) => Q v s' | .ok _ => False | .error e => E e s') s') :
    wpAny (model prog w) A (call (.ref C) rest) Q E s := by
  have X := (kb.sub S.keep).k
  refine wpAny_call ?_
  obtain ⟨hh, g, d, t, os'⟩ := s
  have S1 := S.push (P := AttrA []) (t := t) emptyDict rfl ⟨[], 0, rfl, by simp, (fun e he => by cases he), fun x => rfl⟩
  have S2 := S1.push (P := InstA C hh.objs.size) (t := t) (instObj C hh.objs.size) rfl rfl
  rw [show (hh.push emptyDict).objs.size = hh.objs.size + 1 from Heap.size_push ..] at S2
  have hC : Cx (A.under (.builtin "type.__call__" ⟨.ref C :: rest, []⟩)) k := ⟨Cc.handled, by show A.depth + 1 + 2 * k < _; have := Cc.depth; omega, by show A.units + 1 + 20 * k + 50 < _; have := Cc.units; omega⟩
  refine make_core (makes_of X hm) (looks_findIn X hi) (fun self => bind_fn X self (beq_iff_eq.mp hf)) (.inl rfl) ?_
  exact h _ _ _ _ hC S2
end
/-! text FwE -/
/-- a dict: its pairs, in their order -/
noncomputable def DictG {prog : Program} {w : World} {K : Type} [DecidableEq K] (knd : KeyKind prog w K) (kvs : List (K × Value)) : Asn := fun o =>
  ∃ es ep, o.ExactDict ∧ o.data = .dict es ep ∧ KeysOf knd es ∧ Pairs knd es.toList kvs ∧ (kvs.map (·.1)).Nodup
section
variable {prog : Program} {w : World} {A : Around} {E : Value → Shared → Prop} {s : Shared} {B : Heap} {os : OsState} {l : Led} {env : Env} {K : Type} [DecidableEq K] {knd : KeyKind prog w K} {d : Addr} {kvs : List (K × Value)} {k : K} {key v : Value} {F : Asn → Led}
theorem At.dict {h : Heap} (x : At h d (DictG knd kvs)) : h.DictOf knd d kvs := by
  obtain ⟨o, ho, es, ep, h⟩ := x; exact ⟨o, es, ep, ho, h⟩
theorem DictG.at {h : Heap} (x : h.DictOf knd d kvs) : At h d (DictG knd kvs) := by
  obtain ⟨o, es, ep, ho, h⟩ := x; exact ⟨o, ho, es, ep, h⟩
theorem in_dict {Q : Value → Shared → Prop} (S : St B os s l) (x : At s.heap d (DictG knd kvs)) (hd : d ≠ 1) (hk : knd.is k key = true) (h : ∀ s', St B os s' l → Q (.bool (valueAt kvs k).isSome) s') :
    wpAny (model prog w) A (compareOp .In key (.ref d)) Q E s :=
  wpAny_in_of hk (by simpa [sysModules] using hd) x.dict.mapOf (h _ S.tok)
theorem s_dict {Q : Unit → Shared → Prop} (S : St B os s l) (H : Hole d (DictG knd kvs) F l) (hk : knd.is k key = true) (hz : kvs.length < 2 ^ 20) (h : ∀ s', St B os s' (F (DictG knd (stored kvs k v))) → Q () s') :
    wpAny (model prog w) A (setItem (.ref d) key v) Q E s :=
  wpAny_setItem_pairs hk (S.rd H.mem).dict (fun h' hd hs => h _ (S.sameBut H hs (DictG.at hd))) (by rw [sizeLine_eq]; lia)
theorem g_dict {Q : Value → Shared → Prop} {value slice : Expr} (S : St B os s l) (x : At s.heap d (DictG knd kvs)) (hk : knd.is k key = true) (hv : valueAt kvs k = some v) (h : ∀ s', St B os s' l → Q v s')
    (hs : subscripted slice false (.ref d) key = operate [.ref d, key] (getItem (.ref d) key) := by rfl) : wpAny (model prog w) A (subscriptTail value slice (.ref d) key) Q E s :=
  tail_any x.dict.typeIs slot_dict_getitem.lookup (wpAny_getItem_of hk x.dict.mapOf hv (h _ S.tok)) hs
/-- {k: v} -/
theorem d_disp1 {ke ve : Expr} {pos : Pos} {Q : Value → Shared → Prop} (S : St B os s l)
    (h : ∀ D s₁, D ≠ 1 → St B os s₁ ((D, DictG knd []) :: l) → wpAny (model prog w) A (eval ke env) (fun kv s₂ => wpAny (model prog w) A (eval ve env) (fun vv s₃ => ∃ k l' F, knd.is k kv = true ∧ St B os s₃ l' ∧ Hole D (DictG knd []) F l' ∧
      ∀ s₄, St B os s₄ (F (DictG knd [(k, vv)])) → Q (.ref D) s₄) E s₂) E s₁) (hb : 1 < s.heap.objs.size) : wpAny (model prog w) A (eval (.Dict [some ke] [ve] pos) env) Q E s := by
  refine wpAny_Dict_pairs (knd := knd) (pairs := [(eval ke env, do let x ← eval ve env; standAt pos; pure x)]) rfl (by simp) (by simp) ?_
  have S1 : St B os ({ s with heap := s.heap.push { cls := .type "dict", data := .dict #[] } } : Shared) ((s.heap.objs.size, DictG knd []) :: l) :=
    S.new (t := s.toks) (d := s.drawn) (Sub.push _) (size_none _) (DictG.at (Heap.DictOf.new s.heap))
  refine evalPairs_cons (wpAny_mono (h _ _ (Nat.ne_of_gt hb) S1) (fun kv s₂ h₂ => ?_) fun _ _ x => x)
  refine wpAny_bind (wpAny_mono h₂ (fun vv s₃ h₃ => wpAny_bind (wpAny_standAt (wpAny_pure ?_))) fun _ _ x => x)
  obtain ⟨k, l', F, hk, S3, H, hq⟩ := h₃
  refine evalPairs_nil ⟨[(k, vv)], ?_, (S3.rd H.mem).dict, fun h' hd hs => hq _ (S3.sameBut H hs (DictG.at ?_))⟩
  · exact ⟨hk, rfl, trivial⟩
  · exact hd
end

section
variable {prog : Program} {w : World} {A : Around} {E : Value → Shared → Prop} {s : Shared} {B : Heap} {os : OsState} {l : Led} {env : Env} {x y : Str} {t u : Tok}
theorem b_addS {Q : Value → Shared → Prop} (S : St B os s l) (hz : x.length + y.length < 2 ^ 22) (h : ∀ t s', St B os s' l → Q (.str (x ++ y) t) s') : wpAny (model prog w) A (binaryOp .Add (.str x t) (.str y u)) Q E s :=
  PyProof.Rows.add_str (fun t' tk => h t' _ S.tok) (by rw [sizeLine_eq]; lia)
theorem in_set {ks : List Str} {a : Addr} {Q : Value → Shared → Prop} (S : St B os s l) (hS : At s.heap a (SetA prog w ks)) (h : ∀ s', St B os s' l → Q (.bool (decide (x ∈ ks))) s') : wpAny (model prog w) A (compareOp .In (.str x t) (.ref a)) Q E s :=
  wpAny_inSet_of (strKind_is prog w x t) rfl (SetA.setOf hS) (h _ S.tok)
theorem m_startswith {pl : Sem Bool} {Q : Value × List Value → Shared → Prop} (h : Q (.builtin "str.startswith", [.str x t]) s) : wpAny (model prog w) A (getMethod (.str x t) (Str.ofString "startswith") pl) Q E s := GM.startswith h
noncomputable def IfE (M : Model) (A : Around) (E : Value → Shared → Prop) (env : Env) (body orelse : Expr) (Q : Value → Shared → Prop) (b : Bool) (s : Shared) : Prop := if b = true then wpAny M A (eval body env) Q E s else wpAny M A (eval orelse env) Q E s
theorem e_ifexp {test body orelse : Expr} {pos : Pos} {M : Model} {Q : Value → Shared → Prop} (h : wpAny M A (isTrue test env (eval test env)) (IfE M A E env body orelse Q) E s) : wpAny M A (eval (.IfExp test body orelse pos) env) Q E s := wpAny_IfExp h
theorem ie_true {b : Bool} {body orelse : Expr} {M : Model} {Q : Value → Shared → Prop} (hb : b = true) (h : wpAny M A (eval body env) Q E s) : IfE M A E env body orelse Q b s := by subst hb; exact h
theorem ie_false {b : Bool} {body orelse : Expr} {M : Model} {Q : Value → Shared → Prop} (hb : b = false) (h : wpAny M A (eval orelse env) Q E s) : IfE M A E env body orelse Q b s := by subst hb; exact h
end
section
variable {prog : Program} {w : World} {A : Around} {E : Value → Shared → Prop} {s : Shared} {B : Heap} {os : OsState} {l : Led} {env : Env} {a : Addr} {vs : List Value}
theorem tr_listA {Q : Bool → Shared → Prop} (S : St B os s l) (x : At s.heap a (IsL vs)) (hz : vs.length < 2 ^ 62) (h : ∀ s', St B os s' l → Q (!vs.isEmpty) s') : wpAny (model prog w) A (truthy (.ref a)) Q E s := by
  refine wpAny_truthy_list x.list (by rw [List.size_toArray]; lia) ?_
  have e : vs.toArray.isEmpty = vs.isEmpty := by cases vs <;> rfl
  rw [e]
  exact h _ S.tok
theorem len_lA {n : Nat} {Q : Value → Shared → Prop} (S : St B os s l) (x : At s.heap a (IsL vs)) (hn : vs.length = n) (hv : n < 2 ^ 62) (h : ∀ t s', St B os s' l → Q (.int n t) s') :
    wpAny (model prog w) A (call (.builtin "len") [.ref a]) Q E s := by
  refine Calls.call_len_list x.list (by rw [List.size_toArray]; lia) ?_
  rw [List.size_toArray, hn]
  exact h _ _ S.tok
theorem sp_cons {M : Model} {e : Expr} {rest : List Expr} {pos : Pos} {Q : List Value → Shared → Prop} (h : wpAny M A (eval e env) (fun v s₁ => wpAny M A (spliced (backTo pos (starEach rest env))) (fun vs s₂ => Q (v :: vs) s₂) E s₁) E s)
    (he : starEach (e :: rest) env = (false, eval e env) :: starEach rest env := by rfl) : wpAny M A (spliced (backTo pos (starEach (e :: rest) env))) Q E s := by
  rw [he]
  exact spliced_cons h
theorem sp_nil {M : Model} {pos : Pos} {Q : List Value → Shared → Prop} (h : Q [] s) : wpAny M A (spliced (backTo pos (starEach [] env))) Q E s := spliced_nil h
end
theorem St.big {w : World} {B : Heap} {os : OsState} {s : Shared} {l : Led} (kb : KB w B) (S : St B os s l) : 1 < s.heap.objs.size := by
  have h : (KK w).lookup 2 = some _ := rfl
  have h2 : 2 < s.heap.objs.size := Heap.lt_size (S.keep _ _ (kb.k _ _ h))
  exact Nat.lt_of_succ_lt h2
/-! text FwF -/
noncomputable abbrev NoE : Value → Shared → Prop := fun _ _ => False
section
variable {B B' : Heap} {os : OsState} {s : Shared} {l : Led} {a : Addr} {d : Drawn} {t : Nat} {h' : Heap}
/-- objects of nobody's change -/
theorem St.others (wr : List Addr) (S : St B os s l) (hB : ∀ a ∈ wr, B.get? a = none) (hl : ∀ a ∈ wr, a ∉ l.map (·.1)) (k : ∀ b o, b ∉ wr → s.heap.get? b = some o → h'.get? b = some o) : St B os ⟨h', s.gens, d, t, s.os⟩ l :=
  ⟨fun b o e => k b o (fun q => by rw [hB _ q] at e; cases e) (S.keep b o e), fun p hp => by
    obtain ⟨o, ho, hP⟩ := S.has p hp
    exact ⟨o, k _ _ (fun q => hl _ q (List.mem_map_of_mem (f := (·.1)) hp)) ho, hP⟩, S.fresh, S.nd, S.gens, S.os⟩
/-- the first object of the ledger changes, and others of nobody's -/
theorem St.firstAnd {P P' : Asn} (wr : List Addr) (S : St B os s ((a, P) :: l)) (hB : ∀ b ∈ wr, B.get? b = none) (hl : ∀ b ∈ wr, b ∉ l.map (·.1)) (x : At h' a P') (k : ∀ b o, b ∉ wr → b ≠ a → s.heap.get? b = some o → h'.get? b = some o) : St B os ⟨h', s.gens, d, t, s.os⟩ ((a, P') :: l) := by
  have nd := S.nd
  rw [List.map_cons, List.nodup_cons] at nd
  have ha := S.fresh _ List.mem_cons_self
  refine ⟨fun b o e => k b o (fun q => by rw [hB _ q] at e; cases e) (fun q => by rw [q] at e; rw [ha] at e; cases e) (S.keep b o e), fun p hp => ?_, fun p hp => ?_, ?_, S.gens, S.os⟩
  · rcases List.mem_cons.mp hp with rfl | hp
    · exact x
    · obtain ⟨o, ho, hP⟩ := S.has p (List.mem_cons_of_mem _ hp)
      have hm : p.1 ∈ l.map (·.1) := List.mem_map_of_mem (f := (·.1)) hp
      exact ⟨o, k _ _ (fun q => hl _ q hm) (fun q => nd.1 (by rw [← q]; exact hm)) ho, hP⟩
  · rcases List.mem_cons.mp hp with rfl | hp
    · exact ha
    · exact S.fresh p (List.mem_cons_of_mem _ hp)
  · rw [List.map_cons, List.nodup_cons]; exact nd
end

/-- an iterator and the names that it fills at every turn -/
structure Draw (prog : Program) (w : World) (A : Around) (target : Expr) (env : Env) (I C : Addr) (fp wr : List Addr) (n : Nat) (T : Nat → Heap → Prop) (V : Nat → List (Str × Value) → Prop) : Prop where
  sub : ∀ b ∈ wr, b ∈ fp
  live : ∀ i h, T i h → ∀ a ∈ fp, ∃ o, h.get? a = some o
  keep : ∀ i h h', T i h → (∀ b ∈ fp, ∀ o, h.get? b = some o → h'.get? b = some o) → T i h'
  item : ∀ i (s : Shared) (lo : List (Str × Value)) (K : Shared → Prop), i < n → T i s.heap → At s.heap C (NsA lo) →
    (∀ h' tk lo', V i lo' → T (i + 1) h' → At h' C (NsA lo') → (∀ b o, b ∉ wr → b ≠ C → s.heap.get? b = some o → h'.get? b = some o) → K { s with heap := h', toks := tk }) →
    wpAny (model prog w) A (pyNext (.ref I)) (fun r s₁ => ∃ v, r = some v ∧ wpAny (model prog w) A (letOwnedTupleGo target (.ref I) v) (fun _ s₀ => wpAny (model prog w) A (assign target env v) (fun _ s₂ => K s₂) NoE s₀) NoE s₁) NoE s
  done : ∀ (s : Shared) (K : Option Value → Shared → Prop), T n s.heap → (∀ h' tk, (∀ b o, b ∉ wr → s.heap.get? b = some o → h'.get? b = some o) → K none { s with heap := h', toks := tk }) → wpAny (model prog w) A (pyNext (.ref I)) K NoE s
  self : ∀ i (s : Shared) (Q : Value → Shared → Prop) (E : Value → Shared → Prop), T i s.heap → Q (.ref I) s → wpAny (model prog w) A (pyIter (.ref I)) Q E s

section
variable {prog : Program} {w : World} {A : Around} {env : Env} {I C : Addr} {fp wr : List Addr} {n : Nat} {T : Nat → Heap → Prop} {lc : List Str} {cs : List (Str × Addr)}
theorem EO.plainS (O : EO env C lc cs) : (env.scope.kind == .class || (env.scope.kind == .module && env.locals != env.globals)) = false := by rw [O.kind]; rfl
theorem Draw.name {x : Str} {px : Pos} {P : Nat → Value → Prop} (W : Walks prog w A I fp wr n P T) (O : EO env C lc cs) (hx : x ∈ lc) (hC : C ∉ fp) (live : ∀ i h, T i h → ∀ a ∈ fp, ∃ o, h.get? a = some o) : Draw prog w A (.Name x px) env I C fp wr n T (fun i lo => ∃ v, P i v ∧ lo = [(x, v)]) where
  sub := W.sub
  live := live
  keep := W.frame
  item := fun i s lo K hi hT hA hK => by
    refine W.item i s _ _ hi hT fun v h' tk hP hT' hk => ⟨v, rfl, wpAny_pure ?_⟩
    have hCw : C ∉ wr := fun q => hC (W.sub _ q)
    obtain ⟨m, hn, _, _⟩ := (show At h' C (NsA lo) from let ⟨o, ho, hp⟩ := hA; ⟨o, hk _ _ hCw ho, hp⟩).ns
    refine wpAny_assign_Name (wpAny_storeName_local (O.locs x hx).1 (O.loc ▸ hn) (fun h₂ hn₂ hs₂ => ?_) O.plainS)
    rw [O.loc] at hn₂ hs₂
    refine hK h₂ _ [(x, v)] ⟨v, hP, rfl⟩ (W.frame _ _ _ hT' fun b hb o e => hs₂.extBut b o (fun q => hC (q ▸ hb)) e) (NsA.at hn₂ (fun p hp => ?_) (by simp)) fun b o hb hbC e => hs₂.extBut b o hbC (hk b o hb e)
    rw [List.mem_singleton.mp hp]; simp
  done := fun s K hT hK => W.done s _ _ hT hK
  self := W.self
theorem Draw.pair {a b : Str} {pa pb tp : Pos} {kk : Nat} {Pt : Nat → Array Value → Prop} {Mid : Nat → Addr → Heap → Prop} (hh : A.handled = none) (W : WalksT prog w A I fp wr n Pt T Mid) (hP : ∀ i vals, Pt i vals → ∃ x y, vals = #[x, y]) (O : EO env C lc cs) (ha : a ∈ lc) (hb : b ∈ lc) (hab : a ≠ b) (hC : C ∉ fp) (live : ∀ i h, T i h → ∀ a ∈ fp, ∃ o, h.get? a = some o) :
    Draw prog w A (.Tuple [.Name a pa, .Name b pb] kk tp) env I C fp wr n T (fun i lo => ∃ x y, Pt i #[x, y] ∧ lo = [(b, y), (a, x)]) where
  sub := W.sub
  live := live
  keep := W.frame
  item := fun i s lo K hi hT hA hK => by
    refine W.item i s _ _ hi hT fun t vals h' tk hPv hts hTu hM hk => ⟨_, rfl, ?_⟩
    obtain ⟨x, y, rfl⟩ := hP _ _ hPv
    have hCw : C ∉ wr := fun q => hC (W.sub _ q)
    have hA' : At h' C (NsA lo) := let ⟨o, ho, hp⟩ := hA; ⟨o, hk _ _ hCw ho, hp⟩
    refine W.go _ _ _ _ _ _ _ _ hM fun h₁ hT₁ hk₁ => ?_
    have hA₁ : At h₁ C (NsA lo) := let ⟨o, ho, hp⟩ := hA'; ⟨o, hk₁ _ _ hCw ho, hp⟩
    obtain ⟨m, hn, _, _⟩ := hA₁.ns
    have ht₁ : h₁.IsTuple t #[x, y] := hTu.at fun o e => hk₁ _ o (W.apart _ _ _ hM) e
    refine kcp_assign hh ht₁ (O.locs a ha).1 (O.locs b hb).1 O.plainS (O.loc ▸ hn) fun h₂ tk₂ hn₂ hs₂ => ?_
    rw [O.loc] at hn₂ hs₂
    refine hK h₂ _ [(b, y), (a, x)] ⟨x, y, hPv, rfl⟩ (W.frame _ _ _ hT₁ fun b hb o e => hs₂ b o (fun q => hC (q ▸ hb)) e) (NsA.at hn₂ (fun p hp => ?_) (by simp [Ne.symm hab])) fun b o hb hbC e => hs₂ b o hbC (hk₁ b o hb (hk b o hb e))
    rcases List.mem_cons.mp hp with rfl | hp
    · simp
    · rw [List.mem_singleton.mp hp]; simp [hab]
  done := fun s K hT hK => W.done s _ _ hT hK
  self := W.self
end

section
variable {prog : Program} {w : World} {A : Around} {s : Shared} {env : Env}
/-- what a turn of a comprehension does behind its target's filling -/
noncomputable abbrev StepOk (prog : Program) (w : World) (A : Around) (e target : Expr) (depth : Nat) (it acc : Value) (env : Env) (Body : (Shared → Prop) → Shared → Prop) : Prop :=
  ∀ (s : Shared) (K K0 : Shared → Prop), wpAny (model prog w) A (pyNext it) (fun r s₁ => match r with
      | none => K0 s₁
      | some v => wpAny (model prog w) A (letOwnedTupleGo target it v) (fun _ s₀ => wpAny (model prog w) A (assign target env v) (fun _ s₂ => Body K s₂) NoE s₀) NoE s₁) NoE s →
    wpAny (model prog w) A (compTurn e depth it acc env) (fun fin s' => match fin with | .done f => f = .next ∧ K0 s' | .again c' => c' = .compLoop e depth it acc env ∧ K s') NoE s

noncomputable abbrev Body1 (prog : Program) (w : World) (A : Around) (elt : Expr) (ifs : List Expr) (acc : Value) (env : Env) (K : Shared → Prop) (s : Shared) : Prop :=
  wpAny (model prog w) A (forIn ifs true fun c r => if r = true then do let ok ← isTrue c env (eval c env); pure (ForInStep.yield ok) else pure (ForInStep.yield r)) (fun ok s₃ =>
    if ok = true then wpAny (model prog w) A (eval elt env) (fun x s₄ => wpAny (model prog w) A (call (.builtin "list.append") [acc, x]) (fun _ s₅ => K s₅) NoE s₄) NoE s₃ else K s₃) NoE s
theorem step1 {elt target iter : Expr} {ifs : List Expr} {scope : Scope} {pos : Pos} {it acc : Value} : StepOk prog w A (.ListComp elt [⟨target, iter, ifs, 0⟩] scope pos) target 0 it acc env (Body1 prog w A elt ifs acc env) := by
  intro s K K0 h
  rw [compTurn_list]
  refine wpAny_bind (wpAny_standAt (wpAny_bind (wpAny_mono h (fun r s₁ h₁ => ?_) fun _ _ h' => h')))
  cases r with
  | none => exact wpAny_pure ⟨rfl, h₁⟩
  | some v =>
    refine wpAny_bind (wpAny_mono h₁ (fun _ s₀ h₀ => ?_) fun _ _ h' => h')
    refine wpAny_bind (wpAny_mono h₀ (fun _ s₂ h₂ => wpAny_bind (wpAny_mono h₂ (fun ok s₃ h₃ => ?_) fun _ _ h' => h')) fun _ _ h' => h')
    cases ok with
    | false => exact wpAny_pure ⟨rfl, h₃⟩
    | true =>
      exact wpAny_bind (wpAny_bind (wpAny_mono h₃ (fun x s₄ h₄ => wpAny_bind (wpAny_mono h₄ (fun _ s₅ h₅ => wpAny_pure (wpAny_pure ⟨rfl, h₅⟩)) fun _ _ h' => h')) fun _ _ h' => h'))
noncomputable abbrev Body0 (prog : Program) (w : World) (A : Around) (elt : Expr) (acc : Value) (env : Env) (K : Shared → Prop) (s : Shared) : Prop :=
  wpAny (model prog w) A (eval elt env) (fun x s₄ => wpAny (model prog w) A (call (.builtin "list.append") [acc, x]) (fun _ s₅ => K s₅) NoE s₄) NoE s
theorem Body0.one {elt : Expr} {acc : Value} {K : Shared → Prop} (h : Body0 prog w A elt acc env K s) : Body1 prog w A elt [] acc env K s := wpAny_tests_nil (by simpa using h)
theorem Body0.test {elt c : Expr} {acc : Value} {K : Shared → Prop} (h : wpAny (model prog w) A (isTrue c env (eval c env)) (fun ok s => if ok = true then Body0 prog w A elt acc env K s else K s) NoE s) : Body1 prog w A elt [c] acc env K s := wpAny_tests_one h
theorem step22 {elt target iter target' iter' : Expr} {scope : Scope} {pos : Pos} {it acc : Value} : StepOk prog w A (.ListComp elt [⟨target', iter', [], 0⟩, ⟨target, iter, [], 0⟩] scope pos) target 1 it acc env (Body0 prog w A elt acc env) := by
  intro s K K0 h
  have e : compTurn (.ListComp elt [⟨target', iter', [], 0⟩, ⟨target, iter, [], 0⟩] scope pos) 1 it acc env = (do
      standAt iter.pos
      match ← pyNext it with
      | none => pure (.done .next)
      | some v =>
        letOwnedTupleGo target it v
        assign target env v
        (do let _ ← call (.builtin "list.append") [acc, ← eval elt env])
        again (.compLoop (.ListComp elt [⟨target', iter', [], 0⟩, ⟨target, iter, [], 0⟩] scope pos) 1 it acc env)) := by rfl
  rw [e]
  refine wpAny_bind (wpAny_standAt (wpAny_bind (wpAny_mono h (fun r s₁ h₁ => ?_) fun _ _ h' => h')))
  cases r with
  | none => exact wpAny_pure ⟨rfl, h₁⟩
  | some v =>
    refine wpAny_bind (wpAny_mono h₁ (fun _ s₀ h₀ => ?_) fun _ _ h' => h')
    refine wpAny_bind (wpAny_mono h₀ (fun _ s₂ h₂ => ?_) fun _ _ h' => h')
    exact wpAny_bind (wpAny_bind (wpAny_mono h₂ (fun x s₄ h₄ => wpAny_bind (wpAny_mono h₄ (fun _ s₅ h₅ => wpAny_pure (wpAny_pure ⟨rfl, h₅⟩)) fun _ _ h' => h')) fun _ _ h' => h'))
noncomputable abbrev BodyN (prog : Program) (w : World) (A : Around) (e iter : Expr) (acc : Value) (env : Env) (K : Shared → Prop) (s : Shared) : Prop :=
  wpAny (model prog w) A (eval iter env) (fun x s₃ => wpAny (model prog w) A (pyIter x) (fun it s₄ => codeAny (model prog w) A (.compStart e 1 it acc env) (fun r s₅ => r = .ok .next ∧ K s₅) s₄) NoE s₃) NoE s
theorem step21 {elt target iter target' iter' : Expr} {scope : Scope} {pos : Pos} {it acc : Value} (hs : ∀ x, foldedSetIterable iter' env x = pure x) :
    StepOk prog w A (.ListComp elt [⟨target, iter, [], 0⟩, ⟨target', iter', [], 0⟩] scope pos) target 0 it acc env (BodyN prog w A (.ListComp elt [⟨target, iter, [], 0⟩, ⟨target', iter', [], 0⟩] scope pos) iter' acc env) := by
  intro s K K0 h
  have e : compTurn (.ListComp elt [⟨target, iter, [], 0⟩, ⟨target', iter', [], 0⟩] scope pos) 0 it acc env = (do
      standAt iter.pos
      match ← pyNext it with
      | none => pure (.done .next)
      | some v =>
        letOwnedTupleGo target it v
        assign target env v
        let x ← eval iter' env
        standAt iter'.pos
        let x ← foldedSetIterable iter' env x
        let it' ← holding [x] (pyIter x)
        let _ ← runOwn (.compStart (.ListComp elt [⟨target, iter, [], 0⟩, ⟨target', iter', [], 0⟩] scope pos) 1 it' acc env) env
        again (.compLoop (.ListComp elt [⟨target, iter, [], 0⟩, ⟨target', iter', [], 0⟩] scope pos) 0 it acc env)) := by rfl
  rw [e]
  refine wpAny_bind (wpAny_standAt (wpAny_bind (wpAny_mono h (fun r s₁ h₁ => ?_) fun _ _ h' => h')))
  cases r with
  | none => exact wpAny_pure ⟨rfl, h₁⟩
  | some v =>
    refine wpAny_bind (wpAny_mono h₁ (fun _ s₀ h₀ => ?_) fun _ _ h' => h')
    refine wpAny_bind (wpAny_mono h₀ (fun _ s₂ h₂ => ?_) fun _ _ h' => h')
    refine wpAny_bind (wpAny_mono h₂ (fun x s₃ h₃ => ?_) fun _ _ h' => h')
    refine wpAny_bind (wpAny_standAt (wpAny_bind (wpAny_of_eq (hs x) (wpAny_bind (wpAny_holding (wpAny_mono h₃ (fun it' s₄ h₄ => ?_) fun _ _ h' => h'))))))
    refine wpAny_bind (wpAny_runOwn (h := none) (codeAny_mono h₄ fun r s₅ h₅ => ?_))
    obtain ⟨rfl, h₅⟩ := h₅
    exact wpAny_pure ⟨rfl, h₅⟩
theorem code_start1 {elt target iter : Expr} {ifs : List Expr} {g : Comprehension} {scope : Scope} {pos : Pos} {it acc : Value} {R : Result → Shared → Prop}
    (h0 : codeAny (model prog w) A (.compLoop (.ListComp elt [g, ⟨target, iter, ifs, 0⟩] scope pos) 1 it acc env) R s)
    (h : wpAny (model prog w) A (pyIter it) (fun it' s' => codeAny (model prog w) A (.compLoop (.ListComp elt [g, ⟨target, iter, ifs, 0⟩] scope pos) 1 it' acc env) R s') NoE s) :
    codeAny (model prog w) A (.compStart (.ListComp elt [g, ⟨target, iter, ifs, 0⟩] scope pos) 1 it acc env) R s := by
  refine codeAny_of_tree ?_
  show wpAny _ _ ((compStart (.ListComp elt [g, ⟨target, iter, ifs, 0⟩] scope pos) 1 it acc env).onRaise (fun x => do noteFrame x env; standAt theWindowsPlace)) _ _ s
  refine wpAny_notedAt ?_
  unfold compStart
  show wpAny _ _ (ask >>= _) _ _ s
  refine wpAny_bind (wpAny_askSetting (wpAny_ite ?_))
  split
  · first
      | exact wpAny_bind (wpAny_pure (wpAny_pure (And.intro rfl h0)))
      | exact wpAny_pure (And.intro rfl h0)
  · first
      | exact wpAny_bind (wpAny_rule (wpAny_bind (wpAny_standAt (wpAny_bind (wpAny_mono h (fun it' s' h' => wpAny_pure (And.intro rfl h')) fun _ _ x => x.elim)))))
      | (refine wpAny_bind (wpAny_rule ?_); show wpAny _ _ (standAt iter.pos >>= _) _ _ s; exact wpAny_bind (wpAny_standAt (wpAny_bind (wpAny_mono h (fun it' s' h' => wpAny_pure (And.intro rfl h')) fun _ _ x => x.elim))))
theorem code_loop {elt target : Expr} {gens : List Comprehension} {scope : Scope} {pos : Pos} {depth : Nat} {it acc : Value} {R : Result → Shared → Prop} {Body : (Shared → Prop) → Shared → Prop}
    (hst : StepOk prog w A (.ListComp elt gens scope pos) target depth it acc env Body) (J : Nat → Shared → Prop) (n : Nat) (h0 : J 0 s)
    (turn : ∀ i s, i < n → J i s → wpAny (model prog w) A (pyNext it) (fun r s₁ => ∃ v, r = some v ∧ wpAny (model prog w) A (letOwnedTupleGo target it v) (fun _ s₀ => wpAny (model prog w) A (assign target env v) (fun _ s₂ => Body (J (i + 1)) s₂) NoE s₀) NoE s₁) NoE s)
    (done : ∀ s, J n s → wpAny (model prog w) A (pyNext it) (fun r s₁ => r = none ∧ R (.ok .next) s₁) NoE s) :
    codeAny (model prog w) A (.compLoop (.ListComp elt gens scope pos) depth it acc env) R s := by
  refine codeAny_loop rfl (fun m s => ∃ i, i ≤ n ∧ m = n - i ∧ J i s) (fun m s hI => ?_) n ⟨0, Nat.zero_le _, rfl, h0⟩
  show wpAny _ A ((compTurn (.ListComp elt gens scope pos) depth it acc env).onRaise (fun x => do noteFrame x env; theTreesLotGoes x)) _ _ s
  refine wpAny_noted ?_
  obtain ⟨i, hi, rfl, hJ⟩ := hI
  by_cases hlt : i < n
  · refine wpAny_mono (hst s (J (i + 1)) (fun _ => False) (wpAny_mono (turn i s hlt hJ) (fun r s₁ h => ?_) fun _ _ x => x)) (fun fin s' h => ?_) fun _ _ x => x.elim
    · obtain ⟨v, rfl, h⟩ := h; exact h
    · cases fin with
      | done f => exact h.2.elim
      | again c' => exact ⟨h.1, n - (i + 1), by omega, i + 1, by omega, rfl, h.2⟩
  · obtain rfl : i = n := by omega
    refine wpAny_mono (hst s (fun _ => False) (fun s => R (.ok .next) s) (wpAny_mono (done s hJ) (fun r s₁ h => ?_) fun _ _ x => x)) (fun fin s' h => ?_) fun _ _ x => x.elim
    · obtain ⟨rfl, h⟩ := h; exact h
    · cases fin with
      | done f => obtain ⟨rfl, h⟩ := h; exact h
      | again c' => exact h.2.elim

/-- the loop, its ledger: the names, the list made, the rest -/
theorem draw_loop {elt target : Expr} {gens : List Comprehension} {scope : Scope} {pos : Pos} {depth : Nat} {R : Result → Shared → Prop} {Body : (Shared → Prop) → Shared → Prop} {I C D : Addr} {fp wr : List Addr} {n : Nat} {T : Nat → Heap → Prop} {V : Nat → List (Str × Value) → Prop}
    {B : Heap} {os : OsState} {lo : List (Str × Value)} {ys : List Value} {lx : Led}
    (Inv : Nat → List Value → Led → Prop) (hst : StepOk prog w A (.ListComp elt gens scope pos) target depth (.ref I) (.ref D) env Body) (mono : ∀ K K' s, (∀ s, K s → K' s) → Body K s → Body K' s) (Dr : Draw prog w A target env I C fp wr n T V)
    (S : St B os s ((C, NsA lo) :: (D, IsL ys) :: lx)) (hi : Inv 0 ys lx) (hT : T 0 s.heap) (hfp : ∀ a ∈ fp, a ≠ C ∧ a ≠ D ∧ a ∉ lx.map (·.1)) (hwr : ∀ a ∈ wr, B.get? a = none)
    (turn : ∀ i ys lx lo B' s, i < n → Sub B B' → Inv i ys lx → V i lo → St B' os s ((C, NsA lo) :: (D, IsL ys) :: lx) → Body (fun s' => ∃ ys' lx' lo', Inv (i + 1) ys' lx' ∧ St B' os s' ((C, NsA lo') :: (D, IsL ys') :: lx')) s)
    (done : ∀ ys lx lo s, Inv n ys lx → St B os s ((C, NsA lo) :: (D, IsL ys) :: lx) → R (.ok .next) s) :
    codeAny (model prog w) A (.compLoop (.ListComp elt gens scope pos) depth (.ref I) (.ref D) env) R s := by
  refine code_loop hst (fun i s => ∃ ys lx lo, Inv i ys lx ∧ St B os s ((C, NsA lo) :: (D, IsL ys) :: lx) ∧ T i s.heap ∧ ∀ a ∈ fp, a ≠ C ∧ a ≠ D ∧ a ∉ lx.map (·.1)) n ⟨ys, lx, lo, hi, S, hT, hfp⟩ ?_ ?_
  · rintro i s hlt ⟨ys, lx, lo, hi, S, hT, hfp⟩
    refine Dr.item i s lo _ hlt hT (S.rd List.mem_cons_self) fun h' tk lo' hV hT' hA hk => ?_
    have hw : ∀ a ∈ wr, a ∉ ((D, IsL ys) :: lx).map (·.1) := fun a ha => by
      have := hfp a (Dr.sub a ha)
      rw [List.map_cons, List.mem_cons]
      rintro (q | q)
      · exact this.2.1 q
      · exact this.2.2 q
    have S' : St B os ({ s with heap := h', toks := tk } : Shared) ((C, NsA lo') :: (D, IsL ys) :: lx) := S.firstAnd wr hwr hw hA hk
    obtain ⟨hB, S2⟩ := S'.wall
    have hne : ∀ a ∈ fp, a ∉ ((C, NsA lo') :: (D, IsL ys) :: lx).map (·.1) := fun a ha => by
      have := hfp a ha
      rw [List.map_cons, List.map_cons, List.mem_cons, List.mem_cons]
      rintro (q | q | q)
      · exact this.1 q
      · exact this.2.1 q
      · exact this.2.2 q
    have hTB : T (i + 1) (hideAll h' (((C, NsA lo') :: (D, IsL ys) :: lx).map (·.1))) := Dr.keep _ _ _ hT' fun b hb o e => hideAll_get _ e (hne b hb)
    refine mono _ _ _ ?_ (turn i ys lx lo' _ _ hlt hB hi hV S2)
    rintro s' ⟨ys', lx', lo'', hi', S3⟩
    refine ⟨ys', lx', lo'', hi', S3.base hB, Dr.keep _ _ _ hTB fun b _ o e => S3.keep _ _ e, fun a ha => ?_⟩
    obtain ⟨o, ho⟩ := Dr.live _ _ hTB a ha
    have key : ∀ p ∈ ((C, NsA lo'') :: (D, IsL ys') :: lx'), a ≠ p.1 := fun p hp q => by
      have := S3.fresh p hp
      rw [← q, ho] at this; cases this
    exact ⟨key _ List.mem_cons_self, key _ (List.mem_cons_of_mem _ List.mem_cons_self), fun q => by
      obtain ⟨p, hp, e⟩ := List.mem_map.mp q
      exact key p (List.mem_cons_of_mem _ (List.mem_cons_of_mem _ hp)) e.symm⟩
  · rintro s ⟨ys, lx, lo, hi, S, hT, hfp⟩
    refine Dr.done s _ hT fun h' tk hk => ⟨rfl, done ys lx lo _ hi (S.others wr hwr (fun a ha => ?_) hk)⟩
    have := hfp a (Dr.sub a ha)
    rw [List.map_cons, List.map_cons, List.mem_cons, List.mem_cons]
    rintro (q | q | q)
    · exact this.1 q
    · exact this.2.1 q
    · exact this.2.2 q
end
/-! text FwG -/
/-- the cells that a block takes along -/
noncomputable def clOf (cs : List (Str × Addr)) : List (Str × NameKind) → List (Str × Addr) → Option (List (Str × Addr))
  | [], acc => some acc
  | (n, k) :: r, acc => if k == .free then (match cs.lookup n with | some c => clOf cs r ((n, c) :: acc) | none => none) else clOf cs r acc
theorem lookup_mem {cs : List (Str × Addr)} {n : Str} {c : Addr} (h : cs.lookup n = some c) : (n, c) ∈ cs := by
  induction cs with
  | nil => cases h
  | cons p r ih =>
    obtain ⟨p1, p2⟩ := p
    rw [List.lookup_cons] at h
    cases q : n == p1 with
    | true => rw [q] at h; cases h; rw [beq_iff_eq.mp q]; exact List.mem_cons_self
    | false => rw [q] at h; exact List.mem_cons_of_mem _ (ih h)
theorem closure_of {env : Env} {L : Addr} {lc : List Str} {cs cl : List (Str × Addr)} {scope : Scope} (O : EO env L lc cs) (h : clOf cs scope.names [] = some cl) : closureFor scope env = pure cl := by
  unfold closureFor
  have key : ∀ (names : List (Str × NameKind)) (acc cl : List (Str × Addr)), clOf cs names acc = some cl →
      (forIn names acc (fun (x : Str × NameKind) (r : List (Str × Addr)) => (match x with
        | (name, kind) => if (kind == NameKind.free) = true then (cellOf env name >>= fun c => pure (ForInStep.yield ((name, c) :: r))) else pure (ForInStep.yield r) : Sem (ForInStep (List (Str × Addr)))))) = pure cl := by
    intro names
    induction names with
    | nil => intro acc cl h; cases h; rfl
    | cons p r ih =>
      intro acc cl h
      obtain ⟨n, k⟩ := p
      rw [List.forIn_cons]
      unfold clOf at h
      by_cases hk : (k == NameKind.free) = true
      · rw [if_pos hk] at h
        cases hc : cs.lookup n with
        | none => rw [hc] at h; cases h
        | some c =>
          rw [hc] at h
          have e : cellOf env n = pure c := by unfold cellOf; rw [(O.cells _ (lookup_mem hc)).2.1]
          simp only [hk, if_true, e]
          exact ih _ _ h
      · rw [if_neg hk] at h
        simp only [hk]
        exact ih _ _ h
  have := key scope.names [] cl h
  exact (congrArg (fun m => m >>= pure) this).trans rfl
theorem lookup_relabel_keep {env : Env} {k₀ : NameKind} (hk₀ : (k₀ == NameKind.free) = false) : ∀ {names : List (Str × NameKind)} {x : Str}, names.lookup x = some k₀ →
    (names.map fun (n, k) => if (k == NameKind.free && env.scope.kind == .function && env.kindOf n == some .cell) then (n, NameKind.cell) else (n, k)).lookup x = some k₀
  | [], _, h => by simp at h
  | (n, k) :: r, x, h => by
    have ih := @lookup_relabel_keep env k₀ hk₀ r x
    show List.lookup x ((if (k == NameKind.free && env.scope.kind == .function && env.kindOf n == some .cell) = true then (n, NameKind.cell) else (n, k)) :: _) = _
    cases hx : x == n with
    | true =>
      simp only [List.lookup_cons, hx] at h
      cases h
      simp [List.lookup_cons, hx, hk₀]
    | false =>
      simp only [List.lookup_cons, hx] at h
      by_cases hc : (k == NameKind.free && env.scope.kind == .function && env.kindOf n == some .cell) = true
      · rw [if_pos hc]; simp only [List.lookup_cons, hx]; exact ih h
      · rw [if_neg hc]; simp only [List.lookup_cons, hx]; exact ih h
theorem lookup_relabel_free {env : Env} : ∀ {names : List (Str × NameKind)} {x : Str}, names.lookup x = some .free →
    (names.map fun (n, k) => if (k == NameKind.free && env.scope.kind == .function && env.kindOf n == some .cell) then (n, NameKind.cell) else (n, k)).lookup x = some .cell ∨
    (names.map fun (n, k) => if (k == NameKind.free && env.scope.kind == .function && env.kindOf n == some .cell) then (n, NameKind.cell) else (n, k)).lookup x = some .free
  | [], _, h => by simp at h
  | (n, k) :: r, x, h => by
    have ih := @lookup_relabel_free env r x
    show List.lookup x ((if (k == NameKind.free && env.scope.kind == .function && env.kindOf n == some .cell) = true then (n, NameKind.cell) else (n, k)) :: _) = _ ∨ List.lookup x ((if (k == NameKind.free && env.scope.kind == .function && env.kindOf n == some .cell) = true then (n, NameKind.cell) else (n, k)) :: _) = _
    by_cases hc : (k == NameKind.free && env.scope.kind == .function && env.kindOf n == some .cell) = true
    · rw [if_pos hc]
      cases hx : x == n with
      | true => simp [List.lookup_cons, hx]
      | false => simp only [List.lookup_cons, hx] at h ⊢; exact ih h
    · rw [if_neg hc]
      cases hx : x == n with
      | true => simp only [List.lookup_cons, hx] at h ⊢; exact .inr h
      | false => simp only [List.lookup_cons, hx] at h ⊢; exact ih h
noncomputable def freeOk (sc : Scope) (cl : List (Str × Addr)) : Bool := cl.all fun p => sc.names.lookup p.1 == some .free && !(p.1 == ("__debug__" : Str)) && !(p.1 == ("__classdict__" : Str)) && cl.lookup p.1 == some p.2
theorem EO.comp {env : Env} {L C : Addr} {lc lc' : List Str} {cs cl : List (Str × Addr)} {scope : Scope} (O : EO env L lc cs) (hk : scope.kind = .function) (hlc : locsOk scope lc' = true) (hcl : freeOk scope cl = true) : EO (compEnvC scope cl C env) C lc' cl := by
  refine ⟨rfl, hk, O.glob, O.blt, inter_of hk, fun x hx => ?_, fun p hp => ?_⟩
  · have := List.all_eq_true.mp hlc x hx
    simp only [Bool.and_eq_true, beq_iff_eq, Bool.not_eq_true'] at this
    exact ⟨lookup_relabel_local this.1, this.2⟩
  · have := List.all_eq_true.mp hcl p hp
    simp only [Bool.and_eq_true, beq_iff_eq, Bool.not_eq_true'] at this
    exact ⟨lookup_relabel_free this.1.1.1, this.2, this.1.1.2, this.1.2⟩
theorem glo_comp {w : World} {env : Env} {C : Addr} {scope : Scope} {cl : List (Str × Addr)} {gl : List (Str × Value)} (h : gloOk (KK w) scope gl = true) : Glos w (compEnvC scope cl C env) gl := by
  intro p hp
  have := List.all_eq_true.mp h p hp
  simp only [Bool.and_eq_true, Bool.or_eq_true, beq_iff_eq, Bool.not_eq_true'] at this
  obtain ⟨⟨⟨h1, h2⟩, h3⟩, h4⟩ := this
  refine ⟨lookup_relabel_keep rfl h1, h2, fun e => ?_, h4⟩
  rw [e] at h3; simp at h3

noncomputable def compOk (sc : Scope) : Bool := (sc.names.all fun x => x.2 != .cell) && (sc.names.all fun x => x.2 != .local || sc.names.lookup x.1 == some .local)
/-- what the loop of a comprehension comes to -/
noncomputable def CompEnd (B : Heap) (os : OsState) (C : Addr) (QQ : Led → Shared → Prop) (r : Result) (s : Shared) : Prop := r = .ok .next ∧ ∃ lo l, St B os s ((C, NsA lo) :: l) ∧ QQ l s

section
variable {prog : Program} {w : World} {A : Around} {E : Value → Shared → Prop} {s : Shared} {env : Env} {L : Addr} {lc : List Str} {cs cl : List (Str × Addr)}
theorem St.drop1 {B : Heap} {os : OsState} {l : Led} {C : Addr} {P : Asn} {h' : Heap} (S : St B os s ((C, P) :: l)) (hs : Heap.SameBut C s.heap h') : St B os { s with heap := h' } l := by
  have nd := S.nd
  rw [List.map_cons, List.nodup_cons] at nd
  exact (S.sub (List.sublist_cons_self _ _)).other (a := C) (S.fresh _ List.mem_cons_self) nd.1 hs.extBut
theorem e_comp {elt target iter : Expr} {ifs : List Expr} {rest : List Comprehension} {scope : Scope} {pos : Pos} {Q : Value → Shared → Prop} (O : EO env L lc cs) (hcl : clOf cs scope.names [] = some cl) (hok : compOk scope = true) (hkind : scope.kind = .function)
    (hs : ∀ x, foldedSetIterable iter env x = pure x)
    (h : wpAny (model prog w) A (eval iter env) (fun x s₁ => wpAny (model prog w) A (pyIter x) (fun it s₂ => ∃ B os l, St B os s₂ l ∧ (∀ s' Q E, Sub s₂.heap s'.heap → Q it s' → wpAny (model prog w) A (pyIter it) Q E s') ∧
      ∀ D C s₃, Sub s₂.heap s₃.heap → St B os s₃ ((C, NsA []) :: (D, IsL []) :: l) → codeAny (model prog w) A (.compLoop (.ListComp elt (⟨target, iter, ifs, 0⟩ :: rest) scope pos) 0 it (.ref D) (compEnvC scope cl C env))
        (CompEnd B os C fun l _ => ∀ s'', St B os s'' l → Q (.ref D) s'') s₃) E s₁) E s) :
    wpAny (model prog w) A (eval (.ListComp elt (⟨target, iter, ifs, 0⟩ :: rest) scope pos) env) Q E s := by
  rw [eval_ListComp]
  simp only [compOk, Bool.and_eq_true, List.all_eq_true] at hok
  refine wpAny_comprehension_free (use := none) rfl hs (closure_of O hcl) hkind (fun y hy e => by have := hok.2 y hy; simpa [e] using this) (wpAny_mono h (fun xv s₁ h₁ => wpAny_mono h₁ (fun it s₂ h₂ => ?_) fun _ _ e => e) fun _ _ e => e)
  obtain ⟨B, os, l, S, hself, h₂⟩ := h₂
  refine wpAny_newObj_type (wpAny_newFunctionEnv (fun y hy => by simpa using hok.1 y hy) (by intro y hy; simp at hy) (fun h₁ hns₁ hsb₁ => ?_) hkind)
  have S1 := S.push (P := IsL []) (t := s₂.toks) { cls := .type "list", dict := none, data := .seq ([] : List Value).toArray } rfl ⟨0, rfl⟩
  have up : Sub (s₂.heap.push { cls := .type "list", dict := none, data := .seq ([] : List Value).toArray }) h₁ := fun b o e => hsb₁.extBut b o (Nat.ne_of_lt (Heap.lt_size e)) (Heap.get?_push_of_some _ e)
  have up2 : Sub s₂.heap h₁ := (Sub.push _).trans up
  have S2 := S1.new (d := s₂.drawn) (t := s₂.toks + ([] : List (Str × Value)).length) (P := NsA []) up (size_none _) (NsA.at hns₁ (by intro p hp; cases hp) .nil)
  have lp := h₂ _ _ _ up2 S2
  refine codeAny_mono (codeAny_compStart_list lp (hself _ _ _ up2 lp)) fun r s' hr => ?_
  obtain ⟨rfl, lo, l', S3, hq⟩ := hr
  obtain ⟨m, hn, _, _⟩ := (S3.rd List.mem_cons_self).ns
  exact ⟨m, hn, fun h' hs' => hq _ (S3.drop1 hs')⟩
theorem a_comp {elt target iter : Expr} {ifs : List Expr} {rest : List Comprehension} {scope : Scope} {pos py spos : Pos} {y : Str} {Q : Flow → Shared → Prop} (O : EO env L lc cs) (hy : y ∈ lc) (hcl : clOf cs scope.names [] = some cl) (hok : compOk scope = true) (hkind : scope.kind = .function)
    (hs : ∀ x, foldedSetIterable iter env x = pure x) (hsw : swapsWith (.ListComp elt (⟨target, iter, ifs, 0⟩ :: rest) scope pos) (some (.Name y py)) spos.line env = pure true)
    (h : wpAny (model prog w) A (eval iter env) (fun x s₁ => wpAny (model prog w) A (pyIter x) (fun it s₂ => ∃ B os l, St B os s₂ l ∧ (∀ s' Q E, Sub s₂.heap s'.heap → Q it s' → wpAny (model prog w) A (pyIter it) Q E s') ∧
      ∀ D C s₃, Sub s₂.heap s₃.heap → St B os s₃ ((C, NsA []) :: (D, IsL []) :: l) → codeAny (model prog w) A (.compLoop (.ListComp elt (⟨target, iter, ifs, 0⟩ :: rest) scope pos) 0 it (.ref D) (compEnvC scope cl C env))
        (CompEnd B os C fun l _ => ∃ lo lo' F, Hole L (NsA lo) F l ∧ (Put y (.ref D) lo lo' ∨ (y ∉ lo.map (·.1) ∧ lo' = (y, .ref D) :: lo)) ∧ ∀ s'', St B os s'' (F (NsA lo')) → Q .next s'') s₃) E s₁) E s) :
    wpAny (model prog w) A (exec (.Assign [.Name y py] (.ListComp elt (⟨target, iter, ifs, 0⟩ :: rest) scope pos) spos) env) Q E s := by
  rw [exec_Assign_Name_used _ _ _ _ hsw]
  refine wpAny_bind (wpAny_standAt (wpAny_bind ?_))
  show wpAny _ A (do let _ ← comprehension (.ListComp elt (⟨target, iter, ifs, 0⟩ :: rest) scope pos) scope env _ (newList []) false (eval iter env) (some (assign (.Name y py) env))) _ _ s
  simp only [compOk, Bool.and_eq_true, List.all_eq_true] at hok
  refine wpAny_bind (wpAny_mono (wpAny_comprehension_free (use := some (assign (.Name y py) env)) (Q := fun _ s' => Q .next s') rfl hs (closure_of O hcl) hkind (fun y hy e => by have := hok.2 y hy; simpa [e] using this)
    (wpAny_mono h (fun xv s₁ h₁ => wpAny_mono h₁ (fun it s₂ h₂ => ?_) fun _ _ e => e) fun _ _ e => e)) (fun _ s' hq => wpAny_pure (wpAny_pure hq)) fun _ _ e => e)
  obtain ⟨B, os, l, S, hself, h₂⟩ := h₂
  refine wpAny_newObj_type (wpAny_newFunctionEnv (fun y hy => by simpa using hok.1 y hy) (by intro y hy; simp at hy) (fun h₁ hns₁ hsb₁ => ?_) hkind)
  have S1 := S.push (P := IsL []) (t := s₂.toks) { cls := .type "list", dict := none, data := .seq ([] : List Value).toArray } rfl ⟨0, rfl⟩
  have up : Sub (s₂.heap.push { cls := .type "list", dict := none, data := .seq ([] : List Value).toArray }) h₁ := fun b o e => hsb₁.extBut b o (Nat.ne_of_lt (Heap.lt_size e)) (Heap.get?_push_of_some _ e)
  have up2 : Sub s₂.heap h₁ := (Sub.push _).trans up
  have S2 := S1.new (d := s₂.drawn) (t := s₂.toks + ([] : List (Str × Value)).length) (P := NsA []) up (size_none _) (NsA.at hns₁ (by intro p hp; cases hp) .nil)
  have lp := h₂ _ _ _ up2 S2
  refine codeAny_mono (codeAny_compStart_list lp (hself _ _ _ up2 lp)) fun r s' hr => ?_
  obtain ⟨rfl, lo, l', S3, lo1, lo2, F, H, hp, hq⟩ := hr
  show wpAny _ A (assign (.Name y py) env (.ref _)) _ _ _
  refine wpAny_assign_Name (n_store O S3 (.there H) hy hp fun s4 S4 => ?_)
  obtain ⟨m, hn, _, _⟩ := (S4.rd List.mem_cons_self).ns
  exact ⟨m, hn, fun h' hs' => hq _ (S4.drop1 hs')⟩
end
/-! text FwH -/
noncomputable def EnumA (it : Addr) : Asn := fun o => o = { cls := .type "enumerate", dict := none, data := .fields #[.none, .bool false, .ref it, rawInt 0, .none, .none], slots := #[] }
noncomputable def ZipA (TI TO : Addr) : Asn := fun o => o = { cls := .type "zip", dict := none, data := .fields #[.none, .bool false, .bool false, .ref TI, .ref TO], slots := #[] }
noncomputable def PairA (a b : Value) : Asn := fun o => o = { cls := .type "tuple", data := .seq #[a, b] }
section
variable {B : Heap} {os : OsState} {s : Shared} {l : Led} {d : Drawn} {t : Nat} {h' : Heap}
theorem St.add (S : St B os s l) (new : Led) (k : Sub s.heap h') (hn : ∀ p ∈ new, s.heap.get? p.1 = none ∧ At h' p.1 p.2) (nd : (new.map (·.1)).Nodup) : St B os ⟨h', s.gens, d, t, s.os⟩ (new ++ l) := by
  refine ⟨S.keep.trans k, fun p hp => ?_, fun p hp => ?_, ?_, S.gens, S.os⟩
  · rcases List.mem_append.mp hp with h | h
    · exact (hn p h).2
    · exact (S.has p h).sub k
  · rcases List.mem_append.mp hp with h | h
    · exact S.none_of (hn p h).1
    · exact S.fresh p h
  · rw [List.map_append, List.nodup_append]
    refine ⟨nd, S.nd, fun a ha b hb q => ?_⟩
    obtain ⟨p, hp, rfl⟩ := List.mem_map.mp ha
    obtain ⟨r, hr, rfl⟩ := List.mem_map.mp hb
    obtain ⟨o, ho, _⟩ := S.has r hr
    have := (hn p hp).1
    rw [q, ho] at this; cases this
theorem none_ge {h : Heap} {a : Addr} (x : h.objs.size ≤ a) : h.get? a = none := by
  cases q : h.get? a with
  | none => rfl
  | some o => exact absurd (Heap.lt_size q) (Nat.not_lt.mpr x)
theorem St.ne_base {a b : Addr} {P : Asn} (S : St B os s l) (m : (a, P) ∈ l) {o : Obj} (hb : B.get? b = some o) : b ≠ a := fun q => by
  have := S.fresh _ m
  rw [← q] at this; rw [hb] at this; cases this
end
section
variable {prog : Program} {w : World} {A : Around} {E : Value → Shared → Prop} {s : Shared} {B : Heap} {os : OsState} {l : Led} {a a1 a2 : Addr} {vs us : List Value} {Q : Value → Shared → Prop}
theorem c_enum (S : St B os s l) (x : At s.heap a (IsL vs)) (h : ∀ e it s', St B os s' ((e, EnumA it) :: (it, IsLI a 0) :: l) → Q (.ref e) s') : wpAny (model prog w) A (call (.type "enumerate") [.ref a]) Q E s := by
  obtain ⟨o, ho, n, rfl⟩ := x
  refine call_enumerate_1 ho fun h' he hi hz hk => h _ s.heap.objs.size _ (S.add [(s.heap.objs.size + 1, EnumA s.heap.objs.size), (s.heap.objs.size, IsLI a 0)] hk (fun p hp => ?_) (by simp))
  rcases List.mem_cons.mp hp with rfl | hp
  · exact ⟨none_ge (Nat.le_succ _), _, he, rfl⟩
  · rw [List.mem_singleton.mp hp]
    exact ⟨size_none _, hi⟩
theorem it_enum {e it : Addr} (S : St B os s l) (m : (e, EnumA it) ∈ l) (h : Q (.ref e) s) : wpAny (model prog w) A (pyIter (.ref e)) Q E s := by
  obtain ⟨o, ho, rfl⟩ := S.rd m
  exact wpAny_pyIter_enum ho h
theorem c_zip (S : St B os s l) (x : At s.heap a1 (IsL vs)) (y : At s.heap a2 (IsL us)) (h : ∀ z TI TO i1 i2 s', St B os s' ((z, ZipA TI TO) :: (TI, PairA (.ref i1) (.ref i2)) :: (TO, PairA .none .none) :: (i1, IsLI a1 0) :: (i2, IsLI a2 0) :: l) → Q (.ref z) s') :
    wpAny (model prog w) A (call (.type "zip") [.ref a1, .ref a2]) Q E s := by
  refine call_zip_2 x.list y.list fun h' hz hTI hTO h1 h2 hsz hk => h _ _ _ _ _ _ (S.add [(s.heap.objs.size + 4, ZipA (s.heap.objs.size + 2) (s.heap.objs.size + 3)), (s.heap.objs.size + 2, PairA (.ref s.heap.objs.size) (.ref (s.heap.objs.size + 1))), (s.heap.objs.size + 3, PairA .none .none), (s.heap.objs.size, IsLI a1 0), (s.heap.objs.size + 1, IsLI a2 0)] hk (fun p hp => ?_) (by simp))
  simp only [List.mem_cons, List.not_mem_nil, or_false] at hp
  rcases hp with rfl | rfl | rfl | rfl | rfl
  · exact ⟨none_ge (Nat.le_add_right _ _), _, hz, rfl⟩
  · exact ⟨none_ge (Nat.le_add_right _ _), _, hTI, rfl⟩
  · exact ⟨none_ge (Nat.le_add_right _ _), _, hTO, rfl⟩
  · exact ⟨none_ge (Nat.le_refl _), h1⟩
  · exact ⟨none_ge (Nat.le_add_right _ _), h2⟩
theorem it_zip {z TI TO : Addr} (S : St B os s l) (m : (z, ZipA TI TO) ∈ l) (h : Q (.ref z) s) : wpAny (model prog w) A (pyIter (.ref z)) Q E s := by
  obtain ⟨o, ho, rfl⟩ := S.rd m
  exact wpAny_pyIter_zip ho h
end

theorem St.off {B : Heap} {os : OsState} {s : Shared} {l : Led} {a : Addr} {P : Asn} (S : St B os s l) (ha : At B a P) : ∀ c ∈ l.map (·.1), a ≠ c := fun c hc => by
  obtain ⟨q, hq, rfl⟩ := List.mem_map.mp hc
  obtain ⟨o, ho, _⟩ := ha; exact S.ne_base hq ho
theorem ex_at {h : Heap} {a : Addr} {P : Asn} (x : At h a P) : ∃ o, h.get? a = some o := by obtain ⟨o, ho, _⟩ := x; exact ⟨o, ho⟩
theorem arr_get {vs : List Value} {i : Nat} {v : Value} (h : vs.toArray[i]? = some v) : vs[i]? = some v := by simpa using h
theorem pair_inj {a b c d : Value} (h : #[a, b] = #[c, d]) : a = c ∧ b = d := by simpa using h
section
variable {prog : Program} {w : World} {A : Around} {s : Shared} {env : Env} {elt : Expr} {gens : List Comprehension} {scope : Scope} {pos : Pos} {depth : Nat} {R : Result → Shared → Prop} {Body : (Shared → Prop) → Shared → Prop} {I C D a : Addr} {vs us : List Value}
    {B : Heap} {os : OsState} {lo : List (Str × Value)} {ys : List Value} {lx : Led} {lc : List Str} {cs : List (Str × Addr)} {x y : Str} {px py tp : Pos} {kk : Nat}
theorem loop_list (Inv : Nat → List Value → Led → Prop) (hst : StepOk prog w A (.ListComp elt gens scope pos) (.Name x px) depth (.ref I) (.ref D) env Body) (mono : ∀ K K' s, (∀ s, K s → K' s) → Body K s → Body K' s)
    (hh : A.handled = none) (O : EO env C lc cs) (hx : x ∈ lc) (ha : At B a (IsL vs)) (S : St B os s ((C, NsA lo) :: (D, IsL ys) :: (I, IsLI a 0) :: lx)) (hi : Inv 0 ys lx)
    (turn : ∀ i ys lx v B' s, vs[i]? = some v → Sub B B' → Inv i ys lx → St B' os s ((C, NsA [(x, v)]) :: (D, IsL ys) :: lx) → Body (fun s' => ∃ ys' lx' lo', Inv (i + 1) ys' lx' ∧ St B' os s' ((C, NsA lo') :: (D, IsL ys') :: lx')) s)
    (done : ∀ ys lx lo s, Inv vs.length ys lx → St B os s ((C, NsA lo) :: (D, IsL ys) :: lx) → R (.ok .next) s) :
    codeAny (model prog w) A (.compLoop (.ListComp elt gens scope pos) depth (.ref I) (.ref D) env) R s := by
  have off := S.off ha
  have n1 := List.pairwise_cons.mp S.nd
  have n2 := List.pairwise_cons.mp n1.2
  have n3 := List.pairwise_cons.mp n2.2
  have Dr := Draw.name (px := px) (Walks.list (prog := prog) (w := w) hh I a (off I (.tail _ (.tail _ (.head _)))) vs.toArray) O hx (C := C) (fun hm => by
    rcases List.mem_cons.mp hm with e | hm
    · exact n1.1 I (.tail _ (.head _)) e
    · exact off C (.head _) (List.mem_singleton.mp hm).symm)
    (fun i h hT => List.forall_mem_cons.mpr ⟨ex_at hT.1, List.forall_mem_singleton.mpr (hT.2.imp fun _ q => q.1)⟩)
  have S' : St B os s ((C, NsA lo) :: (D, IsL ys) :: lx) := S.sub (.cons_cons _ (.cons_cons _ (List.sublist_cons_self _ _)))
  refine draw_loop Inv hst mono Dr S' hi ⟨S.rd (.tail _ (.tail _ (.head _))), (ha.sub S.keep).list⟩
    (List.forall_mem_cons.mpr ⟨⟨Ne.symm (n1.1 I (.tail _ (.head _))), Ne.symm (n2.1 I (.head _)), fun q => n3.1 I q rfl⟩, List.forall_mem_singleton.mpr ⟨off C (.head _), off D (.tail _ (.head _)), fun q => off a (.tail _ (.tail _ (.tail _ q))) rfl⟩⟩)
    (List.forall_mem_singleton.mpr (S.fresh (I, IsLI a 0) (.tail _ (.tail _ (.head _))))) (fun i ys lx lo B' s hi hB hI hV S => ?_) (fun ys lx lo s hI S => done ys lx lo s hI S)
  obtain ⟨v, hv, rfl⟩ := hV
  exact turn i ys lx v B' s (arr_get hv) hB hI S
theorem loop_range {n : Nat} (Inv : Nat → List Value → Led → Prop) (hst : StepOk prog w A (.ListComp elt gens scope pos) (.Name x px) depth (.ref I) (.ref D) env Body) (mono : ∀ K K' s, (∀ s, K s → K' s) → Body K s → Body K' s)
    (hh : A.handled = none) (O : EO env C lc cs) (hx : x ∈ lc) (S : St B os s ((C, NsA lo) :: (D, IsL ys) :: (I, IsRI 0 n 1) :: lx)) (hi : Inv 0 ys lx)
    (turn : ∀ i ys lx t B' s, i < n → Sub B B' → Inv i ys lx → St B' os s ((C, NsA [(x, .int i t)]) :: (D, IsL ys) :: lx) → Body (fun s' => ∃ ys' lx' lo', Inv (i + 1) ys' lx' ∧ St B' os s' ((C, NsA lo') :: (D, IsL ys') :: lx')) s)
    (done : ∀ ys lx lo s, Inv n ys lx → St B os s ((C, NsA lo) :: (D, IsL ys) :: lx) → R (.ok .next) s) :
    codeAny (model prog w) A (.compLoop (.ListComp elt gens scope pos) depth (.ref I) (.ref D) env) R s := by
  have n1 := List.pairwise_cons.mp S.nd
  have n2 := List.pairwise_cons.mp n1.2
  have n3 := List.pairwise_cons.mp n2.2
  have nC := n1.1 I (.tail _ (.head _))
  obtain ⟨o, ho, rfl⟩ : At s.heap I (IsRI 0 n 1) := S.rd (.tail _ (.tail _ (.head _)))
  have Dr := Draw.name (px := px) (LCg.range_walks (prog := prog) (w := w) (I := I) hh 0 n) O hx (C := C) (fun e => nC (List.mem_singleton.mp e)) (fun i h hT => List.forall_mem_singleton.mpr ⟨_, hT⟩)
  have S' : St B os s ((C, NsA lo) :: (D, IsL ys) :: lx) := S.sub (.cons_cons _ (.cons_cons _ (List.sublist_cons_self _ _)))
  refine draw_loop Inv hst mono Dr S' hi ?_ (List.forall_mem_singleton.mpr ⟨Ne.symm nC, Ne.symm (n2.1 I (.head _)), fun q => n3.1 I q rfl⟩) (List.forall_mem_singleton.mpr (S.fresh (I, IsRI 0 n 1) (.tail _ (.tail _ (.head _))))) (fun i ys lx lo B' s hi hB hI hV S => ?_) done
  · show s.heap.get? I = some _
    rw [ho]; simp
  · obtain ⟨v, ⟨t, rfl⟩, rfl⟩ := hV
    rw [Int.zero_add] at S
    exact turn i ys lx t B' s hi hB hI S
theorem loop_enum {e it : Addr} (Inv : Nat → List Value → Led → Prop) (hst : StepOk prog w A (.ListComp elt gens scope pos) (.Tuple [.Name x px, .Name y py] kk tp) depth (.ref e) (.ref D) env Body) (mono : ∀ K K' s, (∀ s, K s → K' s) → Body K s → Body K' s)
    (hh : A.handled = none) (O : EO env C lc cs) (hx : x ∈ lc) (hy : y ∈ lc) (hxy : x ≠ y) (ha : At B a (IsL vs)) (S : St B os s ((C, NsA lo) :: (D, IsL ys) :: (e, EnumA it) :: (it, IsLI a 0) :: lx)) (hi : Inv 0 ys lx)
    (turn : ∀ i ys lx v t B' s, vs[i]? = some v → Sub B B' → Inv i ys lx → St B' os s ((C, NsA [(y, v), (x, .int i t)]) :: (D, IsL ys) :: lx) → Body (fun s' => ∃ ys' lx' lo', Inv (i + 1) ys' lx' ∧ St B' os s' ((C, NsA lo') :: (D, IsL ys') :: lx')) s)
    (done : ∀ ys lx lo s, Inv vs.length ys lx → St B os s ((C, NsA lo) :: (D, IsL ys) :: lx) → R (.ok .next) s) :
    codeAny (model prog w) A (.compLoop (.ListComp elt gens scope pos) depth (.ref e) (.ref D) env) R s := by
  have off := S.off ha
  have n1 := List.pairwise_cons.mp S.nd
  have n2 := List.pairwise_cons.mp n1.2
  have n3 := List.pairwise_cons.mp n2.2
  have n4 := List.pairwise_cons.mp n3.2
  obtain ⟨o, he, rfl⟩ : At s.heap e (EnumA it) := S.rd (.tail _ (.tail _ (.head _)))
  have Dr := Draw.pair (pa := px) (pb := py) (tp := tp) (kk := kk) hh (WalksT.enumerate (prog := prog) (w := w) hh e it a (n3.1 it (.head _)) (off e (.tail _ (.tail _ (.head _)))) (off it (.tail _ (.tail _ (.tail _ (.head _))))) vs.toArray) (fun i vals ⟨t, x, _, q⟩ => ⟨_, _, q⟩) O hx hy hxy (C := C)
    (fun hm => by
      rcases List.mem_cons.mp hm with e' | hm
      · exact n1.1 e (.tail _ (.head _)) e'
      rcases List.mem_cons.mp hm with e' | hm
      · exact n1.1 it (.tail _ (.tail _ (.head _))) e'
      · exact off C (.head _) (List.mem_singleton.mp hm).symm)
    (fun i h hT => List.forall_mem_cons.mpr ⟨hT.1.imp' _ fun _ q => q, List.forall_mem_cons.mpr ⟨ex_at hT.2.1, List.forall_mem_singleton.mpr (hT.2.2.imp fun _ q => q.1)⟩⟩)
  have S' : St B os s ((C, NsA lo) :: (D, IsL ys) :: lx) := S.sub (.cons_cons _ (.cons_cons _ (.cons _ (List.sublist_cons_self _ _))))
  refine draw_loop Inv hst mono Dr S' hi ⟨⟨_, he⟩, S.rd (.tail _ (.tail _ (.tail _ (.head _)))), (ha.sub S.keep).list⟩
    (List.forall_mem_cons.mpr ⟨⟨Ne.symm (n1.1 e (.tail _ (.head _))), Ne.symm (n2.1 e (.head _)), fun q => n3.1 e (.tail _ q) rfl⟩, List.forall_mem_cons.mpr ⟨⟨Ne.symm (n1.1 it (.tail _ (.tail _ (.head _)))), Ne.symm (n2.1 it (.tail _ (.head _))), fun q => n4.1 it q rfl⟩,
      List.forall_mem_singleton.mpr ⟨off C (.head _), off D (.tail _ (.head _)), fun q => off a (.tail _ (.tail _ (.tail _ (.tail _ q)))) rfl⟩⟩⟩)
    (List.forall_mem_cons.mpr ⟨S.fresh (e, EnumA it) (.tail _ (.tail _ (.head _))), List.forall_mem_singleton.mpr (S.fresh (it, IsLI a 0) (.tail _ (.tail _ (.tail _ (.head _)))))⟩)
    (fun i ys lx lo B' s hi hB hI hV S => ?_) (fun ys lx lo s hI S => done ys lx lo s hI S)
  obtain ⟨x', y', ⟨t, v, hv, q⟩, rfl⟩ := hV
  obtain ⟨rfl, rfl⟩ := pair_inj q
  exact turn i ys lx _ t B' s (arr_get hv) hB hI S
theorem loop_zip {z TI TO i1 i2 a1 a2 : Addr} (Inv : Nat → List Value → Led → Prop) (hst : StepOk prog w A (.ListComp elt gens scope pos) (.Tuple [.Name x px, .Name y py] kk tp) depth (.ref z) (.ref D) env Body) (mono : ∀ K K' s, (∀ s, K s → K' s) → Body K s → Body K' s)
    (hh : A.handled = none) (O : EO env C lc cs) (hx : x ∈ lc) (hy : y ∈ lc) (hxy : x ≠ y) (ha1 : At B a1 (IsL vs)) (ha2 : At B a2 (IsL us)) (S : St B os s ((C, NsA lo) :: (D, IsL ys) :: (z, ZipA TI TO) :: (TI, PairA (.ref i1) (.ref i2)) :: (TO, PairA .none .none) :: (i1, IsLI a1 0) :: (i2, IsLI a2 0) :: lx)) (hi : Inv 0 ys lx)
    (turn : ∀ i ys lx v u B' s, vs[i]? = some v → us[i]? = some u → Sub B B' → Inv i ys lx → St B' os s ((C, NsA [(y, u), (x, v)]) :: (D, IsL ys) :: lx) → Body (fun s' => ∃ ys' lx' lo', Inv (i + 1) ys' lx' ∧ St B' os s' ((C, NsA lo') :: (D, IsL ys') :: lx')) s)
    (done : ∀ ys lx lo s, Inv (min vs.length us.length) ys lx → St B os s ((C, NsA lo) :: (D, IsL ys) :: lx) → R (.ok .next) s) :
    codeAny (model prog w) A (.compLoop (.ListComp elt gens scope pos) depth (.ref z) (.ref D) env) R s := by
  have of1 := S.off ha1
  have of2 := S.off ha2
  have n1 := List.pairwise_cons.mp S.nd
  have n2 := List.pairwise_cons.mp n1.2
  have n3 := List.pairwise_cons.mp n2.2
  have n4 := List.pairwise_cons.mp n3.2
  have n5 := List.pairwise_cons.mp n4.2
  have n6 := List.pairwise_cons.mp n5.2
  have n7 := List.pairwise_cons.mp n6.2
  obtain ⟨o, hz, rfl⟩ : At s.heap z (ZipA TI TO) := S.rd (.tail _ (.tail _ (.head _)))
  obtain ⟨o, hTI, rfl⟩ : At s.heap TI (PairA (.ref i1) (.ref i2)) := S.rd (.tail _ (.tail _ (.tail _ (.head _))))
  obtain ⟨o, hTO, rfl⟩ : At s.heap TO (PairA .none .none) := S.rd (.tail _ (.tail _ (.tail _ (.tail _ (.head _)))))
  have ap : ZipApart z TI TO i1 i2 a1 a2 := ⟨Ne.symm (n3.1 TI (.head _)), Ne.symm (n3.1 TO (.tail _ (.head _))), Ne.symm (n3.1 i1 (.tail _ (.tail _ (.head _)))), Ne.symm (n3.1 i2 (.tail _ (.tail _ (.tail _ (.head _))))), n4.1 TO (.head _), n4.1 i1 (.tail _ (.head _)), n4.1 i2 (.tail _ (.tail _ (.head _))), n5.1 i1 (.head _), n5.1 i2 (.tail _ (.head _)), n6.1 i2 (.head _),
    of1 z (.tail _ (.tail _ (.head _))), of1 TO (.tail _ (.tail _ (.tail _ (.tail _ (.head _))))), of1 i1 (.tail _ (.tail _ (.tail _ (.tail _ (.tail _ (.head _)))))), of1 i2 (.tail _ (.tail _ (.tail _ (.tail _ (.tail _ (.tail _ (.head _))))))),
    of2 z (.tail _ (.tail _ (.head _))), of2 TO (.tail _ (.tail _ (.tail _ (.tail _ (.head _))))), of2 i1 (.tail _ (.tail _ (.tail _ (.tail _ (.tail _ (.head _)))))), of2 i2 (.tail _ (.tail _ (.tail _ (.tail _ (.tail _ (.tail _ (.head _)))))))⟩
  have hCf : ∀ b ∈ [z, TI, TO, i1, i2, a1, a2], b ≠ C := List.forall_mem_cons.mpr ⟨Ne.symm (n1.1 z (.tail _ (.head _))), List.forall_mem_cons.mpr ⟨Ne.symm (n1.1 TI (.tail _ (.tail _ (.head _)))), List.forall_mem_cons.mpr ⟨Ne.symm (n1.1 TO (.tail _ (.tail _ (.tail _ (.head _))))), List.forall_mem_cons.mpr ⟨Ne.symm (n1.1 i1 (.tail _ (.tail _ (.tail _ (.tail _ (.head _)))))),
    List.forall_mem_cons.mpr ⟨Ne.symm (n1.1 i2 (.tail _ (.tail _ (.tail _ (.tail _ (.tail _ (.head _))))))), List.forall_mem_cons.mpr ⟨of1 C (.head _), List.forall_mem_singleton.mpr (of2 C (.head _))⟩⟩⟩⟩⟩⟩
  have hDf : ∀ b ∈ [z, TI, TO, i1, i2, a1, a2], b ≠ D ∧ b ∉ lx.map (·.1) := List.forall_mem_cons.mpr ⟨⟨Ne.symm (n2.1 z (.head _)), fun q => n3.1 z (.tail _ (.tail _ (.tail _ (.tail _ q)))) rfl⟩, List.forall_mem_cons.mpr ⟨⟨Ne.symm (n2.1 TI (.tail _ (.head _))), fun q => n4.1 TI (.tail _ (.tail _ (.tail _ q))) rfl⟩,
    List.forall_mem_cons.mpr ⟨⟨Ne.symm (n2.1 TO (.tail _ (.tail _ (.head _)))), fun q => n5.1 TO (.tail _ (.tail _ q)) rfl⟩, List.forall_mem_cons.mpr ⟨⟨Ne.symm (n2.1 i1 (.tail _ (.tail _ (.tail _ (.head _))))), fun q => n6.1 i1 (.tail _ q) rfl⟩, List.forall_mem_cons.mpr ⟨⟨Ne.symm (n2.1 i2 (.tail _ (.tail _ (.tail _ (.tail _ (.head _)))))), fun q => n7.1 i2 q rfl⟩,
    List.forall_mem_cons.mpr ⟨⟨of1 D (.tail _ (.head _)), fun q => of1 a1 (.tail _ (.tail _ (.tail _ (.tail _ (.tail _ (.tail _ (.tail _ q))))))) rfl⟩, List.forall_mem_singleton.mpr ⟨of2 D (.tail _ (.head _)), fun q => of2 a2 (.tail _ (.tail _ (.tail _ (.tail _ (.tail _ (.tail _ (.tail _ q))))))) rfl⟩⟩⟩⟩⟩⟩⟩
  have Dr := Draw.pair (pa := px) (pb := py) (tp := tp) (kk := kk) hh (WalksT.zip2 (prog := prog) (w := w) hh z TI TO i1 i2 a1 a2 ap vs.toArray us.toArray) (fun i vals ⟨x, y, _, _, q⟩ => ⟨_, _, q⟩) O hx hy hxy (C := C) (fun hm => hCf C hm rfl)
    (fun i h hT => List.forall_mem_cons.mpr ⟨⟨_, hT.1⟩, List.forall_mem_cons.mpr ⟨⟨_, hT.2.1⟩, List.forall_mem_cons.mpr ⟨let ⟨_, _, h3⟩ := hT.2.2.1; ⟨_, h3⟩, List.forall_mem_cons.mpr ⟨ex_at hT.2.2.2.1, List.forall_mem_cons.mpr ⟨ex_at hT.2.2.2.2.1, List.forall_mem_cons.mpr ⟨hT.2.2.2.2.2.1.imp fun _ q => q.1, List.forall_mem_singleton.mpr (hT.2.2.2.2.2.2.imp fun _ q => q.1)⟩⟩⟩⟩⟩⟩)
  have S' : St B os s ((C, NsA lo) :: (D, IsL ys) :: lx) := S.sub (.cons_cons _ (.cons_cons _ (.cons _ (.cons _ (.cons _ (.cons _ (List.sublist_cons_self _ _)))))))
  refine draw_loop Inv hst mono Dr S' hi ⟨hz, hTI, ⟨_, _, hTO⟩, S.rd (.tail _ (.tail _ (.tail _ (.tail _ (.tail _ (.head _)))))), S.rd (.tail _ (.tail _ (.tail _ (.tail _ (.tail _ (.tail _ (.head _))))))), (ha1.sub S.keep).list, (ha2.sub S.keep).list⟩ (fun b hb => ⟨hCf b hb, hDf b hb⟩)
    (List.forall_mem_cons.mpr ⟨S.fresh (z, ZipA TI TO) (.tail _ (.tail _ (.head _))), List.forall_mem_cons.mpr ⟨S.fresh (TO, PairA .none .none) (.tail _ (.tail _ (.tail _ (.tail _ (.head _))))), List.forall_mem_cons.mpr ⟨S.fresh (i1, IsLI a1 0) (.tail _ (.tail _ (.tail _ (.tail _ (.tail _ (.head _)))))), List.forall_mem_singleton.mpr (S.fresh (i2, IsLI a2 0) (.tail _ (.tail _ (.tail _ (.tail _ (.tail _ (.tail _ (.head _))))))))⟩⟩⟩)
    (fun i ys lx lo B' s hi hB hI hV S => ?_) (fun ys lx lo s hI S => done ys lx lo s hI S)
  obtain ⟨x', y', ⟨v, u, hv, hu, q⟩, rfl⟩ := hV
  obtain ⟨rfl, rfl⟩ := pair_inj q
  exact turn i ys lx _ _ B' s (arr_get hv) (arr_get hu) hB hI S
end
/-! text FwI -/
section
variable {prog : Program} {w : World} {A : Around} {E : Value → Shared → Prop} {s : Shared} {B : Heap} {os : OsState} {l : Led} {Q : Value → Shared → Prop}
/-- a def with one cell is called -/
theorem call_fn1 {k : Nat} {f : Addr} {fd : FuncData} {oc : Value} {od : Option Addr} {osl : Array (Option Value)} {body : List Stmt} {args : List Value}
    (lc : List Str) (gl : List (Str × Value)) (binds lo : List (Str × Value)) (x : Str) (cv : Option Value) (C : Cx A (k + 1)) (kb : KB w B) (S : St B os s l)
    (ho : (KK w).lookup f = some ⟨oc, od, .func fd, osl⟩) (hcd : codeIn (KK w) fd.code fd.qualname = true) (hbody : fd.body = .stmts body)
    (hbind : bindArgs fd ⟨args, []⟩ = pure binds) (hclo : fd.closure = []) (hcell : ∀ n, cellsFrom n fd.scope.names [] = [(x, n)]) (hxc : fd.scope.names.lookup x = some .cell) (hxd : (!(x == ("__debug__" : Str)) && !(x == ("__classdict__" : Str))) = true)
    (hkind : (binds.all fun p => fd.scope.names.lookup p.1 == some .local || p.1 == x) = true)
    (hlo : ∀ p ∈ lo, bindL (fun y => fd.scope.names.lookup y) binds (fun _ => none) p.1 = some p.2) (hcv : bindC (fun y => fd.scope.names.lookup y) binds (fun _ => none) x = cv) (hnd' : nodupB (lo.map (·.1)) = true)
    (hlc : locsOk fd.scope lc = true) (hgl : gloOk (KK w) fd.scope gl = true) (hg : fd.globals = mainGlobals) (hb : fd.builtins = builtinsNs)
    (hco : fd.scope.isCoroutine = false) (hgen : fd.scope.isGenerator = false) (hk : fd.scope.kind = .function)
    (h : ∀ A' env L c s', Cx A' k → EO env L lc [(x, c)] → env.kindOf x = some .cell → Glos w env gl → St B os s' ((L, NsA lo) :: (c, CellA cv) :: l) →
      wpAny (model prog w) A' (execs body env) (fun fl s'' => Q (retOf fl) s'') (fun _ _ => False) s') :
    wpAny (model prog w) A (call (.ref f) args) Q E s := by
  refine wpAny_call ?_
  have kb' := kb.sub S.keep
  simp only [Bool.and_eq_true, Bool.not_eq_true'] at hxd
  refine codeAny_call_cells (fd := fd) (body := body) (binds := binds) (by have := C.depth; lia) (kb'.k _ _ ho) rfl kb'.lim (codeRec_of kb'.k hcd) hbody hbind hclo (fun p hp => ?_) (fun s₁ I => ?_) hco hgen hk
  · have := List.all_eq_true.mp hkind p hp
    simp only [Bool.or_eq_true, beq_iff_eq] at this
    rcases this with h | h
    · exact .inl h
    · refine .inr ⟨by rw [h]; exact hxc, ?_⟩
      rw [hcell, h]; simp [List.lookup_cons]
  · have hec : (callEnvC fd s.heap.objs.size f).cells = [(x, s.heap.objs.size + 1)] := hcell _
    obtain ⟨h₁, tk, rfl⟩ := I.toInCall.same
    have O : EO (callEnvC fd s.heap.objs.size f) s.heap.objs.size lc [(x, s.heap.objs.size + 1)] := by
      have O' := EO.of (env := callEnvC fd s.heap.objs.size f) (L := s.heap.objs.size) (sc := fd.scope) (lc := lc) rfl rfl hg hb hk (inter_of hk) hlc
      refine ⟨O'.loc, O'.kind, O'.glob, O'.blt, O'.inter, O'.locs, fun p hp => ?_⟩
      rw [List.mem_singleton.mp hp]
      exact ⟨.inl hxc, by rw [hec]; simp [List.lookup_cons], hxd.1, hxd.2⟩
    have hn := I.toInCall.ns
    have hc : h₁.IsCell (s.heap.objs.size + 1) cv := by
      have := I.cell x (s.heap.objs.size + 1) (by rw [hec]; simp [List.lookup_cons])
      rw [← hcv]; exact this
    refine wpAny_mono (h _ _ _ (s.heap.objs.size + 1) _ C.deeper O hxc (glo_of rfl hgl) (S.add [(s.heap.objs.size, NsA lo), (s.heap.objs.size + 1, CellA cv)] I.toInCall.keep (fun p hp => ?_) (by simp))) (fun fl s'' x => ?_) fun _ _ x => x.elim
    · rcases List.mem_cons.mp hp with rfl | hp
      · exact ⟨size_none _, NsA.at hn hlo (nodup_of hnd')⟩
      · rw [List.mem_singleton.mp hp]
        exact ⟨none_ge (Nat.le_succ _), hc⟩
    · cases fl <;> exact x
theorem b_addL {a b : Addr} {vs us : List Value} (S : St B os s l) (x : At s.heap a (IsL vs)) (y : At s.heap b (IsL us)) (hz : vs.length + us.length < 2 ^ 22) (h : ∀ D s', St B os s' ((D, IsL (vs ++ us)) :: l) → Q (.ref D) s') :
    wpAny (model prog w) A (binaryOp .Add (.ref a) (.ref b)) Q E s := by
  obtain ⟨o, ho, n, rfl⟩ := x
  obtain ⟨o', ho', n', rfl⟩ := y
  refine PySem.P.add_list ho ho' (h _ _ (S.push _ rfl ⟨0, by simp⟩)) (by rw [List.size_toArray, List.size_toArray, sizeLine_eq]; lia)
theorem a_pair {env : Env} {L T : Addr} {lc : List Str} {cs : List (Str × Addr)} {a b : Str} {pa pb tp : Pos} {kk : Nat} {u v : Value} {lo lo' lo'' : List (Str × Value)} {F : Asn → Led} {Q : Unit → Shared → Prop} (hh : A.handled = none) (O : EO env L lc cs) (S : St B os s l) (ht : At s.heap T (IsT [u, v])) (H : Hole L (NsA lo) F l) (ha : a ∈ lc) (hb : b ∈ lc)
    (p : Put a u lo lo' ∨ (a ∉ lo.map (·.1) ∧ lo' = (a, u) :: lo)) (q : Put b v lo' lo'' ∨ (b ∉ lo'.map (·.1) ∧ lo'' = (b, v) :: lo')) (h : ∀ s', St B os s' (F (NsA lo'')) → Q () s') :
    wpAny (model prog w) A (assign (.Tuple [.Name a pa, .Name b pb] kk tp) env (.ref T)) Q E s := by
  refine wpAny_assign_Tuple hh ht.tup rfl rfl fun h₁ he₁ => ?_
  have S1 : St B os ({ s with heap := h₁ } : Shared) l := S.grow fun b o e => he₁ b o (Nat.ne_of_lt (Heap.lt_size e)) e
  show wpAny _ _ (assignInOrder [assign (.Name a pa) env, assign (.Name b pb) env] [u, v]) _ _ _
  refine assignInOrder_cons (wpAny_assign_Name (n_store O S1 H ha p fun s₂ S2 => ?_))
  have key : ∀ {F : Asn → Led} {l : Led} {P P' : Asn}, Hole L P F l → Hole L P' F (F P') := by
    intro F l P P' H
    induction H with
    | here => exact .here
    | there _ ih => exact .there ih
  exact assignInOrder_cons (wpAny_assign_Name (n_store O S2 (key H) hb q fun s₃ S3 => assignInOrder_nil (h _ S3)))
theorem a_pairN {env : Env} {L T : Addr} {lc : List Str} {cs : List (Str × Addr)} {a b : Str} {pa pb tp : Pos} {kk : Nat} {u v : Value} {lo : List (Str × Value)} {F : Asn → Led} {Q : Unit → Shared → Prop} (hh : A.handled = none) (O : EO env L lc cs) (S : St B os s l) (ht : At s.heap T (IsT [u, v])) (H : Hole L (NsA lo) F l) (ha : a ∈ lc) (hb : b ∈ lc)
    (p : (lo.all fun q => !(q.1 == a)) = true) (q : (lo.all fun q => !(q.1 == b)) = true) (hab : (b == a) = false) (h : ∀ s', St B os s' (F (NsA ((b, v) :: (a, u) :: lo))) → Q () s') :
    wpAny (model prog w) A (assign (.Tuple [.Name a pa, .Name b pb] kk tp) env (.ref T)) Q E s := by
  have key : ∀ {x : Str}, (lo.all fun q => !(q.1 == x)) = true → x ∉ lo.map (·.1) := fun p hm => by
    obtain ⟨q, hq, e⟩ := List.mem_map.mp hm
    have := List.all_eq_true.mp p q hq
    simp at this; exact this e
  refine a_pair hh O S ht H ha hb (.inr ⟨key p, rfl⟩) (.inr ⟨fun hm => ?_, rfl⟩) h
  rw [List.map_cons, List.mem_cons] at hm
  rcases hm with e | e
  · have e : b = a := e
    rw [e] at hab; simp at hab
  · exact key q e
end
noncomputable def popRet (ini : List It) (lst : It) : It := match ini with
  | [] => lst
  | x :: _ => x
noncomputable def popRest (ini : List It) (lst : It) : List It := match ini with
  | [] => []
  | _ :: r => siftup lst (lst :: r) 0
/-! text FwJ -/
theorem St.absorb {B : Heap} {os : OsState} {s : Shared} {l lc lf : Led} (S : St B os s l) (pk : Pick l lc lf) : ∃ B', Sub B B' ∧ (∀ p ∈ lc, At B' p.1 p.2) ∧ (∀ p ∈ lc, B.get? p.1 = none) ∧ St B' os s lf := by
  have S1 := S.perm pk.perm
  have S2 : St B os s lf := S1.sub (List.sublist_append_right _ _)
  obtain ⟨h1, h2⟩ := S2.wall
  refine ⟨_, h1, fun p hp => ?_, fun p hp => S1.fresh p (List.mem_append_left _ hp), h2⟩
  obtain ⟨o, ho, hP⟩ := S1.has p (List.mem_append_left _ hp)
  refine ⟨o, hideAll_get _ ho fun q => ?_, hP⟩
  have nd := S1.nd
  rw [List.map_append, List.nodup_append] at nd
  exact nd.2.2 p.1 (List.mem_map_of_mem (f := (·.1)) hp) p.1 q rfl

theorem St.order {B : Heap} {os : OsState} {s : Shared} {l lc lf : Led} (S : St B os s l) (pk : Pick l lc lf) : St B os s (lc ++ lf) := S.perm pk.perm
/-! a dict's mirror -/
noncomputable def vAt {α : Type} (kvs : List (Int × α)) (k : Int) : Option α := (kvs.find? fun p => decide (p.1 = k)).map (·.2)
noncomputable def put {α : Type} (kvs : List (Int × α)) (k : Int) (v : α) : List (Int × α) := if kvs.any (fun p => decide (p.1 = k)) = true then kvs.map (fun p => if p.1 = k then (p.1, v) else p) else kvs ++ [(k, v)]
/-- how the codes come about from the pairs -/
noncomputable def expandT (prs : List (Int × Int)) : Nat → Option (List (Int × List Bool))
  | 0 => some [(8, [])]
  | i + 1 => (expandT prs i).bind fun kvs => (prs[3 - i]?).bind fun pr => (vAt kvs (5 + ((3 - i : Nat) : Int))).bind fun c =>
      (vAt (put kvs pr.1 (c ++ [false])) (5 + ((3 - i : Nat) : Int))).bind fun c' => some (put (put kvs pr.1 (c ++ [false])) pr.2 (c' ++ [true]))
/-- the heap's merges -/
inductive Run (its0 : List It) : List It → List (Int × Int) → Prop
  | start : Run its0 its0 []
  | step {ini r : List It} {lst x new : It} {prs : List (Int × Int)} : Run its0 (ini ++ [lst]) prs → popRest ini lst = x :: r → new.w = (popRet ini lst).w + x.w → new.k = 5 + prs.length →
      Run its0 (siftup new (new :: r) 0) (prs ++ [((popRet ini lst).k, x.k)])
noncomputable def part (b : Bool) : Str := if b then Str.ofString "ab" else Str.ofString "a"
noncomputable def CodeAt (B : Heap) (v : Value) (code : List Bool) : Prop := ∃ c us, v = .ref c ∧ At B c (IsL us) ∧ StrsOf us (code.map part)
theorem CodeAt.sub {B B' : Heap} {v : Value} {code : List Bool} (x : CodeAt B v code) (k : Sub B B') : CodeAt B' v code := let ⟨c, us, e, h, q⟩ := x; ⟨c, us, e, h.sub k, q⟩
inductive CodesAt (B : Heap) : List (Int × Value) → List (Int × List Bool) → Prop
  | nil : CodesAt B [] []
  | cons {k : Int} {v : Value} {c : List Bool} {kvs : List (Int × Value)} {cds : List (Int × List Bool)} : CodeAt B v c → CodesAt B kvs cds → CodesAt B ((k, v) :: kvs) ((k, c) :: cds)
theorem CodesAt.sub {B B' : Heap} {kvs : List (Int × Value)} {cds : List (Int × List Bool)} (x : CodesAt B kvs cds) (k : Sub B B') : CodesAt B' kvs cds := by
  induction x with
  | nil => exact .nil
  | cons h _ ih => exact .cons (h.sub k) ih
theorem CodesAt.vAt {B : Heap} {kvs : List (Int × Value)} {cds : List (Int × List Bool)} (x : CodesAt B kvs cds) {k : Int} {c : List Bool} (h : vAt cds k = some c) : ∃ v, valueAt kvs k = some v ∧ CodeAt B v c := by
  induction x with
  | nil => cases h
  | @cons k' v c' kvs cds hc _ ih =>
    unfold Mine.vAt at h
    unfold valueAt
    rw [List.find?_cons] at h ⊢
    by_cases e : k' = k
    · subst e
      simp only [decide_true] at h ⊢
      cases h; exact ⟨v, rfl, hc⟩
    · simp only [e, decide_false] at h ⊢
      exact ih h
theorem CodesAt.app {B : Heap} {kvs kvs' : List (Int × Value)} {cds cds' : List (Int × List Bool)} (x : CodesAt B kvs cds) (y : CodesAt B kvs' cds') : CodesAt B (kvs ++ kvs') (cds ++ cds') := by
  induction x with
  | nil => exact y
  | cons h _ ih => exact .cons h ih
theorem CodesAt.put {B : Heap} {kvs : List (Int × Value)} {cds : List (Int × List Bool)} (x : CodesAt B kvs cds) {k : Int} {v : Value} {c : List Bool} (h : CodeAt B v c) : CodesAt B (stored kvs k v) (put cds k c) := by
  have ha : (kvs.any fun kv => decide (kv.1 = k)) = (cds.any fun kv => decide (kv.1 = k)) := by
    induction x with
    | nil => rfl
    | cons _ _ ih => simp only [List.any_cons, ih]
  unfold stored Mine.put
  rw [ha]
  split
  · rename_i hany
    clear ha hany
    induction x with
    | nil => exact .nil
    | @cons k' v' c' kvs cds hc _ ih =>
      simp only [List.map_cons]
      split
      · exact .cons h ih
      · exact .cons hc ih
  · exact x.app (.cons h .nil)
theorem expandT_step {prs : List (Int × Int)} {i : Nat} {cds : List (Int × List Bool)} (h : expandT prs (i + 1) = some cds) : ∃ kvs pr c c', expandT prs i = some kvs ∧ prs[3 - i]? = some pr ∧ vAt kvs (5 + ((3 - i : Nat) : Int)) = some c ∧
    vAt (put kvs pr.1 (c ++ [false])) (5 + ((3 - i : Nat) : Int)) = some c' ∧ cds = put (put kvs pr.1 (c ++ [false])) pr.2 (c' ++ [true]) := by
  unfold expandT at h
  obtain ⟨kvs, h1, h⟩ := Option.bind_eq_some_iff.mp h
  obtain ⟨pr, h2, h⟩ := Option.bind_eq_some_iff.mp h
  obtain ⟨c, h3, h⟩ := Option.bind_eq_some_iff.mp h
  obtain ⟨c', h4, h⟩ := Option.bind_eq_some_iff.mp h
  exact ⟨kvs, pr, c, c', h1, h2, h3, h4, (Option.some.inj h).symm⟩
theorem expandT_le {prs : List (Int × Int)} : ∀ {n i : Nat}, (expandT prs n).isSome = true → i ≤ n → ∃ cds, expandT prs i = some cds
  | n, i, h, hi => by
    induction n with
    | zero => obtain rfl : i = 0 := by lia
              exact ⟨_, rfl⟩
    | succ n ih =>
      by_cases e : i = n + 1
      · subst e; exact Option.isSome_iff_exists.mp h
      · obtain ⟨cds, hc⟩ := Option.isSome_iff_exists.mp h
        obtain ⟨kvs, _, _, _, h1, _⟩ := expandT_step hc
        exact ih (by rw [h1]; rfl) (by lia)
theorem put_mem {α : Type} {kvs : List (Int × α)} {k : Int} {v : α} {p : Int × α} (h : p ∈ put kvs k v) : p ∈ kvs ∨ p.2 = v := by
  unfold put at h
  split at h
  · obtain ⟨q, hq, rfl⟩ := List.mem_map.mp h
    split
    · exact .inr rfl
    · exact .inl hq
  · rcases List.mem_append.mp h with h | h
    · exact .inl h
    · rw [List.mem_singleton.mp h]; exact .inr rfl
theorem put_len {α : Type} {kvs : List (Int × α)} {k : Int} {v : α} : (put kvs k v).length ≤ kvs.length + 1 := by
  unfold put
  split
  · simp
  · simp
theorem vAt_mem {α : Type} {kvs : List (Int × α)} {k : Int} {v : α} (h : vAt kvs k = some v) : (k, v) ∈ kvs := by
  unfold vAt at h
  obtain ⟨p, hp, rfl⟩ := Option.map_eq_some_iff.mp h
  have h1 := List.find?_some hp
  have h2 := List.mem_of_find?_eq_some hp
  rw [decide_eq_true_eq] at h1
  rw [← h1]; exact h2
theorem expandT_bd {prs : List (Int × Int)} : ∀ {i : Nat} {cds : List (Int × List Bool)}, expandT prs i = some cds → cds.length ≤ 1 + 2 * i ∧ ∀ p ∈ cds, p.2.length ≤ 2 * i
  | 0, cds, h => by cases h; simp
  | i + 1, cds, h => by
    obtain ⟨kvs, pr, c, c', h1, _, h3, h4, rfl⟩ := expandT_step h
    obtain ⟨b1, b2⟩ := expandT_bd h1
    have hc := b2 _ (vAt_mem h3)
    have hc' : c'.length ≤ 2 * i + 1 := by
      rcases put_mem (vAt_mem h4) with q | q
      · have := b2 _ q; simp at this; lia
      · simp only at q hc; rw [q, List.length_append]; simp; exact hc
    refine ⟨?_, fun p hp => ?_⟩
    · have l1 := put_len (kvs := kvs) (k := pr.1) (v := c ++ [false])
      have l2 := put_len (kvs := put kvs pr.1 (c ++ [false])) (k := pr.2) (v := c' ++ [true])
      lia
    · rcases put_mem hp with q | q
      · rcases put_mem q with q | q
        · have := b2 _ q; lia
        · simp only at hc; rw [q, List.length_append]; simp; lia
      · rw [q, List.length_append]; simp; lia
theorem CodesAt.len {B : Heap} {kvs : List (Int × Value)} {cds : List (Int × List Bool)} (x : CodesAt B kvs cds) : kvs.length = cds.length := by
  induction x with
  | nil => rfl
  | cons _ _ ih => simp [ih]
theorem StrsOf.app {vs us : List Value} {xs ys : List Str} (a : StrsOf vs xs) (b : StrsOf us ys) : StrsOf (vs ++ us) (xs ++ ys) := by
  induction a with
  | nil => exact b
  | cons _ ih => exact .cons ih
theorem St.pick2 {B : Heap} {os : OsState} {s : Shared} {l lc lf l' : Led} (S : St B os s l) (pk : Pick l lc lf) (hs : l'.Sublist lf) : St B os s (lc ++ l') := (S.perm pk.perm).sub ((List.Sublist.refl lc).append hs)
/-! text FwK -/
section
variable {prog : Program} {w : World} {A : Around} {E : Value → Shared → Prop} {s s' : Shared} {env : Env} {Q : Value → Shared → Prop}
theorem self_ri {a : Addr} {x left step : Int} (h : At s.heap a (IsRI x left step)) (k : Sub s.heap s'.heap) (hq : Q (.ref a) s') : wpAny (model prog w) A (pyIter (.ref a)) Q E s' := by
  obtain ⟨o, ho, rfl⟩ := h
  exact wpAny_pyIter_rangeiter (k _ _ ho) hq
theorem self_li {a l : Addr} {i : Nat} (h : At s.heap a (IsLI l i)) (k : Sub s.heap s'.heap) (hq : Q (.ref a) s') : wpAny (model prog w) A (pyIter (.ref a)) Q E s' := wpAny_pyIter_listiter (h.sub k) hq
theorem self_enum {a it : Addr} (h : At s.heap a (EnumA it)) (k : Sub s.heap s'.heap) (hq : Q (.ref a) s') : wpAny (model prog w) A (pyIter (.ref a)) Q E s' := by
  obtain ⟨o, ho, rfl⟩ := h
  exact wpAny_pyIter_enum (k _ _ ho) hq
theorem self_zip {a TI TO : Addr} (h : At s.heap a (ZipA TI TO)) (k : Sub s.heap s'.heap) (hq : Q (.ref a) s') : wpAny (model prog w) A (pyIter (.ref a)) Q E s' := by
  obtain ⟨o, ho, rfl⟩ := h
  exact wpAny_pyIter_zip (k _ _ ho) hq
theorem mono0 {elt : Expr} {acc : Value} : ∀ (K K' : Shared → Prop) (s : Shared), (∀ s, K s → K' s) → Body0 prog w A elt acc env K s → Body0 prog w A elt acc env K' s :=
  fun _ _ _ h x => wpAny_mono x (fun _ _ y => wpAny_mono y (fun _ _ z => h _ z) fun _ _ e => e) fun _ _ e => e
theorem mono1 {elt : Expr} {ifs : List Expr} {acc : Value} : ∀ (K K' : Shared → Prop) (s : Shared), (∀ s, K s → K' s) → Body1 prog w A elt ifs acc env K s → Body1 prog w A elt ifs acc env K' s :=
  fun _ _ _ h x => wpAny_mono x (fun ok s y => by
    cases ok
    · exact h _ y
    · exact mono0 _ _ s h y) fun _ _ e => e
theorem monoN {e iter : Expr} {acc : Value} : ∀ (K K' : Shared → Prop) (s : Shared), (∀ s, K s → K' s) → BodyN prog w A e iter acc env K s → BodyN prog w A e iter acc env K' s :=
  fun _ _ _ h x => wpAny_mono x (fun _ _ y => wpAny_mono y (fun _ _ z => codeAny_mono z fun _ _ q => ⟨q.1, h _ q.2⟩) fun _ _ e => e) fun _ _ e => e
end
/-! text FwL -/
theorem StrsOf.are {vs : List Value} {xs : List Str} (h : StrsOf vs xs) : StrsAre vs xs := by
  induction h with
  | nil => exact .nil
  | cons _ ih => exact .cons _ _ ih
section
variable {prog : Program} {w : World} {A : Around} {E : Value → Shared → Prop} {s : Shared} {B : Heap} {os : OsState} {l : Led} {a : Addr} {vs : List Value} {ns : List Int} {Q : Value → Shared → Prop} {env : Env}
theorem c_sorted (S : St B os s l) (x : At s.heap a (IsL vs)) (hI : IntsAre vs ns) (h64 : vs.length < 64) (h : ∀ D vs' ns' s', IntsAre vs' ns' → ns'.Perm ns → ns'.Pairwise (· ≤ ·) → St B os s' ((D, IsL vs') :: l) → Q (.ref D) s') :
    wpAny (model prog w) A (call (.builtin "sorted") [.ref a]) Q E s := by
  refine sorted_ints x.list hI h64 fun out ns' a1 a2 a3 => ?_
  obtain ⟨e, he⟩ := sortedAll_at s.heap vs out
  exact h _ out.toList ns' _ a1 a2 a3 (S.add [(s.heap.objs.size + 1, IsL out.toList)] (fun b o q => sortedAll_old q) (fun p hp => by rw [List.mem_singleton.mp hp]; exact ⟨none_ge (Nat.le_succ _), _, he, e, rfl⟩) (by simp))
theorem c_sum (hh : A.handled = none) (S : St B os s l) (x : At s.heap a (IsL vs)) (hI : IntsAre vs ns) (h : ∀ t s', St B os s' l → Q (.int ns.sum t) s') : wpAny (model prog w) A (call (.builtin "sum") [.ref a]) Q E s := by
  obtain ⟨xs, hxs⟩ := hI.allInts.items
  have e : ns = xs.toList.map (·.1) := by rw [← nums_intItems, ← hxs]; exact hI.numsOf.symm
  have hl := x.list
  rw [hxs] at hl
  refine sum_intListG hh hl fun h' tk t' hk => ?_
  rw [preSum_eq, List.take_of_length_le (by simp), ← e]
  exact h _ _ (S.grow hk)
theorem c_min (hh : A.handled = none) (S : St B os s l) (x : At s.heap a (IsL vs)) (hI : IntsAre vs ns) (hne : 0 < vs.length) (h : ∀ M t s', M ∈ ns → (∀ b ∈ ns, M ≤ b) → St B os s' l → Q (.int M t) s') : wpAny (model prog w) A (call (.builtin "min") [.ref a]) Q E s := by
  obtain ⟨xs, hxs⟩ := hI.allInts.items
  have e : ns = xs.toList.map (·.1) := by rw [← nums_intItems, ← hxs]; exact hI.numsOf.symm
  have hl := x.list
  rw [hxs] at hl
  have hsz : 0 < xs.size := by
    have : (intItems xs).size = vs.length := by rw [← hxs]; simp
    simp [intItems] at this; omega
  refine min_intList hh hl hsz fun v h' tk hv hk => ?_
  obtain ⟨t, rfl⟩ := intItems_at hv
  obtain ⟨h1, h2⟩ := argBest_lt (numAt xs) (xs.size - 1)
  refine h _ t _ ?_ (fun b hb => ?_) (S.grow hk)
  · rw [e, numAt_eq]; exact getD_mem (by rw [List.length_map, Array.length_toList]; omega)
  · rw [e] at hb
    obtain ⟨j, hj, rfl⟩ := mem_getD hb
    rw [List.length_map, Array.length_toList] at hj
    rw [← numAt_eq]; exact h2 j (by omega)
theorem c_abs {x : Int} {t : Tok} (S : St B os s l) (h : ∀ t s', St B os s' l → Q (.int (if x < 0 then -x else x) t) s') : wpAny (model prog w) A (call (.builtin "abs") [.int x t]) Q E s := call_abs_int fun u tk => h u _ S.tok
theorem c_join {x : Str} {t : Tok} {ys : List Str} (S : St B os s l) (y : At s.heap a (IsL vs)) (hI : StrsOf vs ys) (hs : x.length ≤ 16) (hw : (ys.map (·.length)).sum + ys.length ≤ 1048576) (h : ∀ t s', St B os s' l → Q (.str (Txt.join x ys) t) s') :
    wpAny (model prog w) A (call (.builtin "str.join") [.str x t, .ref a]) Q E s := join_listW y.list hI.are hs hw fun t' k => h t' _ S.tok
theorem m_join {x : Str} {t : Tok} {pl : Sem Bool} {Q : Value × List Value → Shared → Prop} (h : Q (.builtin "str.join", [.str x t]) s) : wpAny (model prog w) A (getMethod (.str x t) (Str.ofString "join") pl) Q E s := GM.join h
theorem c_typeI {x : Int} {t : Tok} (h : Q (.type "int") s) : wpAny (model prog w) A (call (.type "type") [.int x t]) Q E s := call_type_of (typeIs_int _ _ _) (by decide) h
theorem u_neg {x : Int} {t : Tok} (S : St B os s l) (h : ∀ t s', St B os s' l → Q (.int (-x) t) s') : wpAny (model prog w) A (unaryOp .USub (.int x t)) Q E s := PyProof.Rows.neg_int (h _ _ S.tok)
/-- a slice of a list -/
theorem sl_tail {value slice : Expr} {vl vu vk : Value} {lo hi st : Option Int} {ops : List Value} (S : St B os s l) (x : At s.heap a (IsL vs)) (pl : IsPart vl lo) (pu : IsPart vu hi) (pk : IsPart vk st) (h0 : st ≠ some 0) (hz : vs.length < 2 ^ 22)
    (h : ∀ D s', St B os s' ((D, IsL (slicePick vs.toArray lo hi st).toList) :: l) → Q (.ref D) s') (hs : subscripted slice false (.ref a) (.ref s.heap.objs.size) = operate ops (getItem (.ref a) (.ref s.heap.objs.size)) := by with_unfolding_all rfl) :
    wpAny (model prog w) A (subscriptTail value slice (.ref a) (.ref s.heap.objs.size)) Q E { s with heap := s.heap.push { cls := .type "slice", data := .fields #[vl, vu, vk] } } := by
  have S1 : St B os ({ s with heap := s.heap.push { cls := .type "slice", data := .fields #[vl, vu, vk] } } : Shared) l := S.grow (Sub.push _)
  refine tail_any (Heap.IsList.typeIs (s := { s with heap := s.heap.push { cls := .type "slice", data := .fields #[vl, vu, vk] } }) (x.list.push _)) list_getitem_lookup
    (wpAny_getItem_list_slice (x.list.push _) (Heap.IsSliceOf.new ..) pl pu pk h0 ?_ (by rw [List.size_toArray, sizeLine_eq]; omega)) hs
  exact h _ _ (S1.push _ rfl ⟨0, by simp⟩)
theorem Slice_ {M : Model} {lower upper step : Option Expr} {p : Pos} (h : wpAny M A (evalPart lower env) (fun l s₁ => wpAny M A (evalPart upper env) (fun u s₂ => wpAny M A (evalPart step env) (fun st s₃ =>
      Q (.ref s₃.heap.objs.size) { s₃ with heap := s₃.heap.push { cls := .type "slice", data := .fields #[l, u, st] } }) E s₂) E s₁) E s) : wpAny M A (eval (.Slice lower upper step p) env) Q E s := wpAny_Slice h
end
theorem StrsOf.reads {hp : Heap} {vs : List Value} {xs : List Str} (h : StrsOf vs xs) : ReadsAll hp vs (xs.map .str) [] := by
  induction h with
  | nil => exact .nil
  | cons _ ih => exact .cons (.str _ _) ih
theorem canLay_strs : ∀ {xs : List Str}, (∀ x ∈ xs, PyData.strOk x = true) → PyData.canLayAll0 (xs.map .str) = true
  | [], _ => rfl
  | x :: r, h => by
    show (PyData.canLay0 (.str x) && PyData.canLayAll0 (r.map .str)) = true
    rw [canLay_strs (xs := r) fun y hy => h y (.tail _ hy), Bool.and_true]
    simp only [PyData.canLay0]; exact h x (.head _)
theorem depth_strs : ∀ (xs : List Str), PyData.depthAll (xs.map .str) = 0
  | [] => rfl
  | x :: r => by simp only [List.map_cons, PyData.depthAll, PyData.depth, depth_strs r, Nat.max_self]
theorem ne_nil {prog : Program} {w : World} {A : Around} {E : Value → Shared → Prop} {s : Shared} {a b : Addr} {us : List Value} {xs : List Str} {Q : Value → Shared → Prop} (hu : A.units + 64 < cLine) (x : At s.heap a (IsL us)) (hs : StrsOf us xs) (hok : ∀ x ∈ xs, PyData.strOk x = true) (y : At s.heap b (IsL [])) (h : Q (.bool (!xs.isEmpty)) s) :
    wpAny (model prog w) A (compareOp .NotEq (.ref a) (.ref b)) Q E s := by
  obtain ⟨o, ho, n, rfl⟩ := x
  obtain ⟨o', ho', n', rfl⟩ := y
  refine ne_dataH (da := .list (xs.map .str)) (db := .list []) (.list ho rfl rfl hs.reads) (.list ho' rfl rfl .nil) ?_ (by rfl) hu ?_
  · show (PyData.canLayAll0 (xs.map .str) && decide (PyData.depthAll (xs.map .str) + 1 ≤ 64)) = true
    rw [canLay_strs hok, depth_strs]; rfl
  · have e : PyData.eqv (.list (xs.map .str)) (.list []) = xs.isEmpty := by
      cases xs with
      | nil => rfl
      | cons x r => rfl
    rw [e]; exact h
theorem sw_true {env : Env} {L : Addr} {lc : List Str} {cs : List (Str × Addr)} {elt : Expr} {gens : List Comprehension} {scope : Scope} {pos py : Pos} {y : Str} {n : Nat} (O : EO env L lc cs) (hy : y ∈ lc) (hl : (py.line == pos.line) = true) (hn : (!(scope.names.any fun (n, k) => n == y && (k == .local || k == .cell))) = true) :
    swapsWith (.ListComp elt gens scope pos) (some (.Name y py)) n env = pure true := by
  have h1 : (env.blockKind == .function) = true := by unfold Env.blockKind; rw [O.kind]; rfl
  have h2 : (env.kindOf y == some .local) = true := by rw [(O.locs y hy).1]; rfl
  show (pure (env.blockKind == .function && env.kindOf y == some .local && py.line == pos.line && !(scope.names.any fun (n, k) => n == y && (k == .local || k == .cell))) : Sem Bool) = pure true
  rw [h1, h2, hl, hn]; rfl
set_option hygiene false
set_option compiler.extract_closed false
-- the lines of the walk (one and the same in every text)
local macro_rules | `(tactic| wtm_at "zmem") => `(tactic| first | exact List.mem_cons_self | (refine List.mem_cons_of_mem _ ?_; wtm_at "zmem"))
local macro_rules | `(tactic| wtm_at "zhole") => `(tactic| first | exact Hole.here | (apply Hole.there; wtm_at "zhole"))
local macro_rules | `(tactic| wtm_at "zput") => `(tactic| first | exact Put.here | (apply Put.there; wtm_at "zput"))
local macro_rules | `(tactic| wtm_at "ztake") => `(tactic| first | exact Take.here | (apply Take.there; wtm_at "ztake"))
local macro_rules | `(tactic| wtm_at "zpick") => `(tactic| first | exact Pick.nil | (apply Pick.cons (by wtm_at "ztake"); wtm_at "zpick"))
local macro_rules | `(tactic| wtm_at "zrd") => `(tactic| exact St.rd (by assumption) (by wtm_at "zmem"))
local macro_rules | `(tactic| wtm_at "zsub") => `(tactic| first | exact List.forall_mem_nil _ | exact List.forall_mem_cons.mpr ⟨by wtm_at "zmem", by wtm_at "zsub"⟩)
local macro_rules | `(tactic| wtm_at "zsl") => `(tactic| first | exact List.Sublist.refl _ | (apply List.Sublist.cons₂; wtm_at "zsl") | (apply List.Sublist.cons; wtm_at "zsl"))
local macro_rules | `(tactic| wtm_at "zname") => `(tactic| first
  | refine n_loc (by assumption) (by assumption) (by wtm_at "zmem") (by wtm_at "zmem") (by wtm_at "zmem") ?_
  | refine n_glob (by assumption) (by assumption) (by assumption) (by assumption) (by wtm_at "zmem") ?_
  | refine n_cell (by assumption) (by assumption) (by wtm_at "zmem") (by wtm_at "zmem") ?_)
local macro_rules | `(tactic| wtm_at "zstore") => `(tactic| first
  | (refine n_set (by assumption) (by assumption) (by wtm_at "zhole") (by wtm_at "zmem") (by wtm_at "zput") ?_; intro zs zS)
  | (refine n_new (by assumption) (by assumption) (by wtm_at "zhole") (by wtm_at "zmem") (by kernel_rfl!) ?_; intro zs zS)
  | (refine n_storeC (by assumption) (by assumption) (by wtm_at "zmem") (by assumption) (by wtm_at "zhole") ?_; intro zs zS))
local macro_rules | `(tactic| wtm_at "zeval") => `(tactic| first
  | wtm_at "zname"
  | (refine x_int (by assumption) ?_; intro zt zs zS)
  | (refine x_str (by assumption) ?_; intro zt zs zS)
  | refine Subscript_ ?_
  | refine wpAny_BinOp ?_
  | refine wpAny_Compare1 ?_ (by with_unfolding_all rfl)
  | refine wpAny_Call_Name_kw ?_
  | refine wpAny_Constant_none ?_
  | refine wpAny_Constant_bool ?_
  | refine Attribute_name ?_
  | refine List_ ?_
  | refine Tuple_ ?_
  | refine e_ifexp ?_
  | refine c_meth ?_ (by with_unfolding_all rfl)
  | refine Slice_ ?_
  | refine PyProof.Rows.UnaryOp_ ?_)
local macro_rules | `(tactic| wtm_at "zexec") => `(tactic| first
  | refine wpAny_Assign_Name ?_ (by with_unfolding_all rfl)
  | refine wpAny_Assign_Subscript ?_ (by with_unfolding_all rfl)
  | refine PyProof.Rows.Assign_Tuple ?_ (by with_unfolding_all rfl) (by with_unfolding_all rfl)
  | refine plainObj_wpAny_Assign_Attribute ?_ (by with_unfolding_all rfl)
  | refine e_expr (by assumption) ?_ (by with_unfolding_all rfl)
  | refine wpAny_Return_some ?_
  | refine wpAny_Break ?_
  | refine e_for ?_ (by intro _; with_unfolding_all rfl)
  | refine wpAny_Continue ?_)
local macro_rules | `(tactic| wtm_at "zop") => `(tactic| first
  | (refine b_add (by assumption) ?_; intro zt zs zS)
  | (refine b_sub (by assumption) ?_; intro zt zs zS)
  | refine lt_int ?_
  | refine gt_int ?_
  | refine eq_int ?_
  | refine ne_int ?_
  | wtm_at "zstore"
  | refine wpAny_assign_Name ?_
  | refine wpAny_truthy_bool ?_
  | refine wpAny_isTrue_Compare1 ?_ (by with_unfolding_all rfl)
  | refine e_and ?_
  | refine isTrue_not ?_
  | refine c_call1 ?_ (by with_unfolding_all rfl)
  | refine c_call2 ?_ (by with_unfolding_all rfl)
  | refine c_call3 ?_ (by with_unfolding_all rfl)
  | refine c_m0 keep_builtin ?_
  | refine c_call0 keep_builtin ?_
  | refine truthy_none ?_
  | refine sp_cons ?_ (by with_unfolding_all rfl)
  | refine sp_nil ?_
  | refine is_none ?_
  | refine SC.startswith ?_
  | refine m_startswith ?_
  | refine m_join ?_
  | refine evalPart_none_step ?_
  | refine evalPart_some_step ?_
  | (refine u_neg (by assumption) ?_; intro zt zs zS)
  | refine c_m1 ?_ (by with_unfolding_all rfl)
  | refine c_m2 ?_ (by with_unfolding_all rfl)
  | refine e_test ?_ (by with_unfolding_all rfl))
local macro_rules | `(tactic| wtm_at "zk") => `(tactic| first
  | refine k_next ?_
  | refine k_none ?_
  | refine k_ret ?_
  | refine k_brk ?_
  | refine k_cont ?_
  | refine t_brk ?_
  | refine t_ret ?_
  | refine k_item ?_
  | refine a_last ?_
  | refine ⟨keep_builtin, ?_⟩
  | refine ⟨keep_type, ?_⟩
  | refine ⟨keep_K (by assumption) (St.keep (by assumption)) (by kernel_rfl!), ?_⟩)
local macro_rules | `(tactic| wtm_at "z") => `(tactic| with_reducible first
  | (show wpAny _ _ (eval _ _) _ _ _; wtm_at "zeval")
  | (show wpAny _ _ _ _ _ _; first
      | refine e_seq ?_
      | (show wpAny _ _ (exec _ _) _ _ _; wtm_at "zexec")
      | wtm_at "zop"
      | refine wpAny_execs_nil ?_)
  | wtm_at "zk")
/-! text Sd -/
set_option maxHeartbeats 4000000 in
theorem siftdown_spec {w : World} {A : Around} {k : Nat} {B : Heap} {os : OsState} {s : Shared} {a : Addr} {its : List It} {start pos : Nat} {t1 t2 : Tok} {new : It} {Q E : Value → Shared → Prop}
    (C : Cx A (k + 1)) (kb : KB w B) (hI : ∀ i ∈ its, i.In B) (hn : its[pos]? = some new) (hlen : its.length < 2 ^ 20) (S : St B os s [(a, IsL (its.map It.val))])
    (h : ∀ s', St B os s' [(a, IsL ((sdown new start pos pos its).map It.val))] → Q .none s') :
    wpAny (model PySem.Challenge.rw_ny0114_01.row.prog w) A (call (.ref 49) [.ref a, .int start t1, .int pos t2]) Q E s := by
  refine call_fn [S_ "heap", S_ "startpos", S_ "pos", S_ "newitem", S_ "parentpos", S_ "parent"] [] [(S_ "heap", .ref a), (S_ "startpos", .int start t1), (S_ "pos", .int pos t2)] C kb S (ho := by rfl) (by kernel_rfl!) (by rfl) (BindsTo.of_eq rfl) (by kernel_rfl!) (by kernel_rfl!) (by kernel_rfl!) (by kernel_rfl!) (by kernel_rfl!) (by rfl) (by rfl) (by rfl) (by rfl) (by rfl) ?_
  intro A' env L s₁ C' O G S'
  clear S
  have hpos : pos < its.length := (List.getElem?_eq_some_iff.mp hn).1
  (repeat wtm_at "z")
  refine g_item (by wtm_at "zrd") (Int.natCast_nonneg _) (b63 hpos hlen) (v := new.val) (by rw [Int.toNat_natCast, List.getElem?_map, hn]; rfl) ?_
  (repeat wtm_at "z")
  clear S'
  refine w_whileP (fun n s => ∃ (cur : List It) (t : Tok), n < cur.length ∧ cur.length = its.length ∧ (∀ i ∈ cur, i.In B) ∧ sdown new start n n cur = sdown new start pos pos its ∧
      St B os s [(L, NsA [(S_ "newitem", new.val), (S_ "heap", .ref a), (S_ "startpos", .int start t1), (S_ "pos", .int n t)]), (a, IsL (cur.map It.val))])
    (fun s => ∃ (p : Nat) (cur : List It) (t : Tok), p < cur.length ∧ cur.length = its.length ∧ cur.set p new = sdown new start pos pos its ∧
      St B os s [(L, NsA [(S_ "newitem", new.val), (S_ "heap", .ref a), (S_ "pos", .int p t)]), (a, IsL (cur.map It.val))]) pos ?_ ?_ ?_
  · exact ⟨its, t2, hpos, rfl, hI, rfl, by assumption⟩
  · rintro n s ⟨cur, t, hp, hl, hc, he, S⟩
    have hcl : cur.length < 2 ^ 20 := by rw [hl]; exact hlen
    (repeat wtm_at "z")
    refine w_case (fun hb => ?_) (fun hb => ?_)
    · simp only [decide_eq_true_eq] at hb
      (repeat wtm_at "z")
      refine b_shr1 (by assumption) (by lia) ?_
      intro t' s S
      (repeat wtm_at "z")
      have hsn : start < n := Int.ofNat_lt.mp hb
      obtain ⟨q, rfl⟩ : ∃ q, n = q + 1 := Nat.exists_eq_add_one.mpr (Nat.lt_of_le_of_lt (Nat.zero_le _) hsn)
      have hq1 : q / 2 ≤ q := Nat.div_le_self q 2
      have hq : q / 2 < cur.length := Nat.lt_of_le_of_lt hq1 (Nat.lt_of_succ_lt hp)
      have e2 := half_eq q
      have e1 : ((((q + 1 : Nat) : Int) - 1) / 2).toNat = q / 2 := by rw [e2]; rfl
      have hg : cur[q / 2]? = some cur[q / 2] := List.getElem?_eq_getElem hq
      have hnew : new.In B := hI _ (List.mem_of_getElem? hn)
      have hpar : cur[q / 2].In B := hc _ (List.getElem_mem hq)
      have hsd : sdown new start (q + 1) (q + 1) cur = if new.lt cur[q / 2] then sdown new start q (q / 2) (cur.set (q + 1) cur[q / 2]) else cur.set (q + 1) new := by
        rw [sdown]
        rw [if_pos hsn, Nat.add_sub_cancel, hg]
      refine g_item (by wtm_at "zrd") (by rw [e2]; exact Int.natCast_nonneg _) (by rw [e2]; exact b63 hq hcl) (v := cur[q / 2].val) (by rw [e1, List.getElem?_map, hg]; rfl) ?_
      (repeat wtm_at "z")
      refine e_if ?_
      (repeat wtm_at "z")
      refine lt_tup (hnew.sub (St.keep (by assumption))) (hpar.sub (St.keep (by assumption))) C'.u ?_
      (repeat wtm_at "z")
      refine i_case (fun hlt => ?_) (fun hlt => ?_)
      · (repeat wtm_at "z")
        refine s_item (by assumption) (by wtm_at "zhole") (Int.natCast_nonneg _) (b63 hp hcl) (by rw [List.length_map]; exact Int.ofNat_lt.mpr hp) ?_
        intro s S
        (repeat wtm_at "z")
        refine t_cont (m := q / 2) (Nat.lt_succ_of_le hq1) ⟨cur.set (q + 1) cur[q / 2], t', by rw [List.length_set]; exact hq, by rw [List.length_set]; exact hl, ?_, ?_, ?_⟩
        · intro i hi
          rcases List.mem_or_eq_of_mem_set hi with h | h
          · exact hc i h
          · rw [h]; exact hpar
        · rw [← he, hsd, if_pos (show new.lt cur[q / 2] = true from hlt), ← sdown_fuel _ _ q _ _ hq1]
        · rename St B os _ _ => S
          have := S.names [(S_ "newitem", new.val), (S_ "heap", .ref a), (S_ "startpos", .int start t1), (S_ "pos", .int ((((q + 1 : Nat) : Int) - 1) / 2) t')] (by wtm_at "zsub") (by kernel_rfl!)
          have e3 : List.map It.val (cur.set (q + 1) cur[q / 2]) = (List.map It.val cur).set ((q + 1 : Nat) : Int).toNat cur[q / 2].val := by rw [List.map_set]; rfl
          rw [e2] at this
          rw [e3]; exact this
      · (repeat wtm_at "z")
        rename St B os _ _ => S
        refine ⟨rfl, q + 1, cur, t, hp, hl, ?_, S.names _ (by wtm_at "zsub") (by kernel_rfl!)⟩
        rw [← he, hsd, if_neg (by rw [show new.lt cur[q / 2] = false from hlt]; simp)]
    · simp only [decide_eq_false_iff_not] at hb
      refine ⟨rfl, n, cur, t, hp, hl, ?_, S.names _ (by wtm_at "zsub") (by kernel_rfl!)⟩
      rw [← he]
      cases n with
      | zero => rfl
      | succ n => rw [sdown, if_neg (fun q => hb (Int.ofNat_lt.mpr q))]
  · rintro s ⟨p, cur, t, hp, hl, he, S⟩
    have hcl : cur.length < 2 ^ 20 := by rw [hl]; exact hlen
    (repeat wtm_at "z")
    refine s_item (by assumption) (by wtm_at "zhole") (Int.natCast_nonneg _) (b63 hp hcl) (by rw [List.length_map]; exact Int.ofNat_lt.mpr hp) ?_
    intro s S
    (repeat wtm_at "z")
    refine h _ (?_)
    rw [← he]
    have e3 : List.map It.val (cur.set p new) = (List.map It.val cur).set (p : Int).toNat new.val := by rw [List.map_set]; rfl
    rw [e3]
    exact S.sub (List.sublist_cons_self _ _)
/-! text Su -/
set_option maxHeartbeats 4000000 in
theorem siftup_spec {w : World} {A : Around} {k : Nat} {B : Heap} {os : OsState} {s : Shared} {a : Addr} {its : List It} {pos : Nat} {t2 : Tok} {new : It} {Q E : Value → Shared → Prop}
    (C : Cx A (k + 2)) (kb : KB w B) (hI : ∀ i ∈ its, i.In B) (hn : its[pos]? = some new) (hlen : its.length < 2 ^ 20) (S : St B os s [(a, IsL (its.map It.val))])
    (h : ∀ s', St B os s' [(a, IsL ((siftup new its pos).map It.val))] → Q .none s') :
    wpAny (model PySem.Challenge.rw_ny0114_01.row.prog w) A (call (.ref 56) [.ref a, .int pos t2]) Q E s := by
  refine call_fn [S_ "heap", S_ "pos", S_ "endpos", S_ "startpos", S_ "newitem", S_ "childpos", S_ "rightpos"] [(S_ "len", .builtin "len"), (S_ "_siftdown", .ref 49)] [(S_ "heap", .ref a), (S_ "pos", .int pos t2)] C kb S (ho := by rfl) (by kernel_rfl!) (by rfl) (BindsTo.of_eq rfl) (by kernel_rfl!) (by kernel_rfl!) (by kernel_rfl!) (by kernel_rfl!) (by kernel_rfl!) (by rfl) (by rfl) (by rfl) (by rfl) (by rfl) ?_
  intro A' env L s₁ C' O G S'
  clear S
  have hpos : pos < its.length := (List.getElem?_eq_some_iff.mp hn).1
  have hnew : new.In B := hI _ (List.mem_of_getElem? hn)
  (repeat wtm_at "z")
  refine len_l (by assumption) (by wtm_at "zmem") (List.length_map _) (Nat.lt_trans hlen (by decide)) ?_
  intro te s S
  (repeat wtm_at "z")
  refine g_item (by wtm_at "zrd") (Int.natCast_nonneg _) (b63 hpos hlen) (v := new.val) (by rw [Int.toNat_natCast, List.getElem?_map, hn]; rfl) ?_
  (repeat wtm_at "z")
  refine b_mul (by assumption) (IntMulOk.of_left (by decide)) ?_
  intro t s S
  (repeat wtm_at "z")
  rename St B os _ _ => S
  refine w_whileP (fun f s => ∃ (p : Nat) (cur : List It) (tp tc : Tok), p < cur.length ∧ cur.length = its.length ∧ cur.length - p ≤ f ∧ (∀ i ∈ cur, i.In B) ∧ supL new f p cur = supL new its.length pos its ∧
      St B os s [(L, NsA [(S_ "childpos", .int (2 * (p : Int) + 1) tc), (S_ "newitem", new.val), (S_ "startpos", .int pos t2), (S_ "endpos", .int its.length te), (S_ "heap", .ref a), (S_ "pos", .int p tp)]), (a, IsL (cur.map It.val))])
    (fun s => ∃ (p : Nat) (cur : List It) (tp : Tok), p < cur.length ∧ cur.length = its.length ∧ (∀ i ∈ cur, i.In B) ∧ (p, cur) = supL new its.length pos its ∧
      St B os s [(L, NsA [(S_ "newitem", new.val), (S_ "startpos", .int pos t2), (S_ "heap", .ref a), (S_ "pos", .int p tp)]), (a, IsL (cur.map It.val))]) its.length ?_ ?_ ?_
  · exact ⟨pos, its, t2, _, hpos, rfl, Nat.sub_le _ _, hI, rfl, S⟩
  · clear S
    rintro f s ⟨p, cur, tp, tc, hp, hl, hf, hc, he, S⟩
    have hcl : cur.length < 2 ^ 20 := by rw [hl]; exact hlen
    (repeat wtm_at "z")
    refine w_case (fun hb => ?_) (fun hb => ?_)
    · simp only [decide_eq_true_eq] at hb
      obtain ⟨f, rfl⟩ : ∃ g, f = g + 1 := Nat.exists_eq_add_one.mpr (Nat.lt_of_lt_of_le (Nat.sub_pos_of_lt hp) hf)
      (repeat wtm_at "z")
      have h1 : 2 * p + 1 < cur.length := by rw [hl]; exact Int.ofNat_lt.mp hb
      have g1 : cur[2 * p + 1]? = some cur[2 * p + 1] := List.getElem?_eq_getElem h1
      have d1 : cur.getD (2 * p + 1) new = cur[2 * p + 1] := by rw [List.getD_eq_getElem?_getD, g1]; rfl
      obtain ⟨c, hcd⟩ : ∃ c, c = if 2 * p + 2 < cur.length ∧ (cur.getD (2 * p + 1) new).lt (cur.getD (2 * p + 2) new) = false then 2 * p + 2 else 2 * p + 1 := ⟨_, rfl⟩
      have hc1 : p < c ∧ c < cur.length := by
        rw [hcd]; split
        · rename_i hh; exact ⟨Nat.lt_succ_of_lt (p_lt1 p), hh.1⟩
        · exact ⟨p_lt1 p, h1⟩
      have hsup : supL new (f + 1) p cur = supL new f c (cur.set p (cur.getD c new)) := by
        rw [supL, if_pos h1, hcd]
      refine e_join (fun s => ∃ tc tr, St B os s [(L, NsA [(S_ "rightpos", .int (2 * (p : Int) + 1 + 1) tr), (S_ "childpos", .int (c : Int) tc), (S_ "newitem", new.val), (S_ "startpos", .int pos t2), (S_ "endpos", .int its.length te), (S_ "heap", .ref a), (S_ "pos", .int p tp)]), (a, IsL (cur.map It.val))]) ?_ ?_
      · refine e_if ?_
        (repeat wtm_at "z")
        refine a_case (fun hr => ?_) (fun hr => ?_)
        · simp only [decide_eq_true_eq] at hr
          have h2 : 2 * p + 2 < cur.length := by rw [hl]; exact Int.ofNat_lt.mp hr
          have g2 : cur[2 * p + 2]? = some cur[2 * p + 2] := List.getElem?_eq_getElem h2
          have d2 : cur.getD (2 * p + 2) new = cur[2 * p + 2] := by rw [List.getD_eq_getElem?_getD, g2]; rfl
          have e1 : (2 * (p : Int) + 1).toNat = 2 * p + 1 := rfl
          have e2 : (2 * (p : Int) + 1 + 1).toNat = 2 * p + 2 := rfl
          (repeat wtm_at "z")
          refine g_item (by wtm_at "zrd") (Int.natCast_nonneg (2 * p + 1)) (b63 h1 hcl) (v := cur[2 * p + 1].val) (by rw [e1, List.getElem?_map, g1]; rfl) ?_
          (repeat wtm_at "z")
          refine g_item (by wtm_at "zrd") (Int.natCast_nonneg (2 * p + 2)) (b63 h2 hcl) (v := cur[2 * p + 2].val) (by rw [e2, List.getElem?_map, g2]; rfl) ?_
          refine lt_tup ((hc _ (List.getElem_mem h1)).sub (St.keep (by assumption))) ((hc _ (List.getElem_mem h2)).sub (St.keep (by assumption))) C'.u ?_
          (repeat wtm_at "z")
          refine i_case (fun hlt => ?_) (fun hlt => ?_)
          · have ec : c = 2 * p + 2 := by rw [hcd, if_pos ⟨h2, by rw [d1, d2]; unfold It.lt; simpa using hlt⟩]
            (repeat wtm_at "z")
            exact ⟨rfl, _, _, by rw [show ((c : Nat) : Int) = 2 * (p : Int) + 1 + 1 by rw [ec]; rfl]; assumption⟩
          · have ec : c = 2 * p + 1 := by rw [hcd, if_neg (fun hh => by have := hh.2; rw [d1, d2] at this; simp only [Bool.not_eq_false'] at hlt; unfold It.lt at this; rw [hlt] at this; cases this)]
            (repeat wtm_at "z")
            exact ⟨rfl, _, _, by rw [show ((c : Nat) : Int) = 2 * (p : Int) + 1 by rw [ec]; rfl]; assumption⟩
        · simp only [decide_eq_false_iff_not] at hr
          refine i_false rfl ?_
          (repeat wtm_at "z")
          have ec : c = 2 * p + 1 := by rw [hcd, if_neg (fun hh => hr (Int.ofNat_lt.mpr (hl ▸ hh.1)))]
          exact ⟨rfl, _, _, by rw [show ((c : Nat) : Int) = 2 * (p : Int) + 1 by rw [ec]; rfl]; assumption⟩
      · rintro s ⟨tc, tr, S⟩
        have gc : cur[c]? = some cur[c] := List.getElem?_eq_getElem hc1.2
        have dc : cur.getD c new = cur[c] := by rw [List.getD_eq_getElem?_getD, gc]; rfl
        (repeat wtm_at "z")
        refine g_item (by wtm_at "zrd") (Int.natCast_nonneg _) (b63 hc1.2 hcl) (v := cur[c].val) (by rw [Int.toNat_natCast, List.getElem?_map, gc]; rfl) ?_
        (repeat wtm_at "z")
        refine s_item (by assumption) (by wtm_at "zhole") (Int.natCast_nonneg _) (b63 hp hcl) (by rw [List.length_map]; exact Int.ofNat_lt.mpr hp) ?_
        intro s S
        (repeat wtm_at "z")
        refine b_mul (by assumption) (IntMulOk.of_left (by decide)) ?_
        intro t s S
        (repeat wtm_at "z")
        rename St B os _ _ => S
        have e3 : List.map It.val (cur.set p cur[c]) = (List.map It.val cur).set (p : Int).toNat cur[c].val := by rw [List.map_set]; rfl
        have hin : ∀ i ∈ cur.set p cur[c], i.In B := by
          intro i hi
          rcases List.mem_or_eq_of_mem_set hi with h | h
          · exact hc i h
          · rw [h]; exact hc _ (List.getElem_mem hc1.2)
        rw [← e3] at S
        exact t_next (m := f) (Nat.lt_succ_self f) ⟨c, cur.set p cur[c], _, _, by rw [List.length_set]; exact hc1.2, by rw [List.length_set]; exact hl, by rw [List.length_set]; exact len_step hf hc1.1, hin, by rw [← he, hsup, dc], S.names _ (by wtm_at "zsub") (by kernel_rfl!)⟩
    · simp only [decide_eq_false_iff_not] at hb
      refine ⟨rfl, p, cur, tp, hp, hl, hc, ?_, S.names _ (by wtm_at "zsub") (by kernel_rfl!)⟩
      rw [← he]
      cases f with
      | zero => rfl
      | succ f => rw [supL, if_neg (fun q => hb (Int.ofNat_lt.mpr (hl ▸ q)))]
  · clear S
    rintro s ⟨p, cur, tp, hp, hl, hc, he, S⟩
    have hcl : cur.length < 2 ^ 20 := by rw [hl]; exact hlen
    (repeat wtm_at "z")
    refine s_item (by assumption) (by wtm_at "zhole") (Int.natCast_nonneg _) (b63 hp hcl) (by rw [List.length_map]; exact Int.ofNat_lt.mpr hp) ?_
    intro s S
    (repeat wtm_at "z")
    have e3 : (List.map It.val cur).set (p : Int).toNat new.val = List.map It.val (cur.set p new) := by rw [List.map_set]; rfl
    rename St B os _ _ => S
    rw [e3] at S
    refine frame S (lc := [(a, IsL (List.map It.val (cur.set p new)))]) (by wtm_at "zpick") (fun B' hB hf S' => ?_)
    refine siftdown_spec (k := k) (new := new) C' (kb.sub hB) ?_ (by rw [List.getElem?_set_self hp]) (by rw [List.length_set]; exact hcl) S' (fun s' S'' => ⟨_, S'', fun S3 => ?_⟩)
    · intro i hi
      rcases List.mem_or_eq_of_mem_set hi with h | h
      · exact (hc i h).sub hB
      · rw [h]; exact hnew.sub hB
    · (repeat wtm_at "z")
      refine h _ ?_
      unfold siftup
      rw [← he]
      exact S3.sub (List.sublist_append_left _ _)
/-! text Hp -/
set_option maxHeartbeats 4000000 in
theorem heappop_spec {w : World} {A : Around} {k : Nat} {B : Heap} {os : OsState} {s : Shared} {a : Addr} {ini : List It} {lst : It} {Q E : Value → Shared → Prop}
    (C : Cx A (k + 3)) (kb : KB w B) (hI : ∀ i ∈ ini ++ [lst], i.In B) (hlen : ini.length < 2 ^ 19) (S : St B os s [(a, IsL ((ini ++ [lst]).map It.val))])
    (h : ∀ s', St B os s' [(a, IsL ((popRest ini lst).map It.val))] → Q (popRet ini lst).val s') :
    wpAny (model PySem.Challenge.rw_ny0114_01.row.prog w) A (call (.ref 28) [.ref a]) Q E s := by
  refine call_fn [S_ "heap", S_ "lastelt", S_ "returnitem"] [(S_ "_siftup", .ref 56)] [(S_ "heap", .ref a)] C kb S (ho := by rfl) (by kernel_rfl!) (by rfl) (BindsTo.of_eq rfl) (by kernel_rfl!) (by kernel_rfl!) (by kernel_rfl!) (by kernel_rfl!) (by kernel_rfl!) (by rfl) (by rfl) (by rfl) (by rfl) (by rfl) ?_
  intro A' env L s₁ C' O G S'
  clear S
  rw [List.map_append] at S'
  (repeat wtm_at "z")
  refine m_pop (by wtm_at "zrd") ?_
  (repeat wtm_at "z")
  refine l_pop (by assumption) (by wtm_at "zhole") (by rw [List.length_map]; omega) ?_
  intro s S
  (repeat wtm_at "z")
  refine e_if ?_
  (repeat wtm_at "z")
  refine tr_list (by assumption) (by wtm_at "zmem") (by rw [List.length_map]; omega) ?_
  intro s S
  cases ini with
  | nil =>
    refine i_false rfl ?_
    (repeat wtm_at "z")
    exact h _ (S.sub (List.sublist_cons_self _ _))
  | cons x r =>
    refine i_true rfl ?_
    (repeat wtm_at "z")
    refine g_item (by wtm_at "zrd") (by omega) (by omega) (v := x.val) rfl ?_
    (repeat wtm_at "z")
    refine s_item (by assumption) (by wtm_at "zhole") (by omega) (by omega) (by simp) ?_
    intro s S
    (repeat wtm_at "z")
    rename St B os _ _ => S
    have S' : St B os _ [_, (a, IsL (List.map It.val (lst :: r)))] := S
    refine frame S' (lc := [(a, IsL (List.map It.val (lst :: r)))]) (by wtm_at "zpick") (fun B' hB hf S' => ?_)
    refine siftup_spec (k := k) (pos := 0) (new := lst) C' (kb.sub hB) (fun i hi => (hI i ?_).sub hB) rfl (by simp only [List.length_cons] at hlen ⊢; omega) S' (fun s' S'' => ⟨_, S'', fun S3 => ?_⟩)
    · rcases List.mem_cons.mp hi with rfl | hi
      · simp
      · exact List.mem_append_left _ (.tail _ hi)
    · simp only [List.cons_append, List.nil_append] at S3
      have S4 := S3.perm (List.Perm.swap _ _ _)
      (repeat wtm_at "z")
      exact h _ (S4.sub (List.sublist_cons_self _ _))

set_option maxHeartbeats 4000000 in
theorem heapreplace_spec {w : World} {A : Around} {k : Nat} {B : Heap} {os : OsState} {s : Shared} {a : Addr} {x new : It} {r : List It} {Q E : Value → Shared → Prop}
    (C : Cx A (k + 3)) (kb : KB w B) (hI : ∀ i ∈ x :: r, i.In B) (hnew : new.In B) (hlen : r.length < 2 ^ 19) (S : St B os s [(a, IsL ((x :: r).map It.val))])
    (h : ∀ s', St B os s' [(a, IsL ((siftup new (new :: r) 0).map It.val))] → Q x.val s') :
    wpAny (model PySem.Challenge.rw_ny0114_01.row.prog w) A (call (.ref 35) [.ref a, new.val]) Q E s := by
  refine call_fn [S_ "heap", S_ "item", S_ "returnitem"] [(S_ "_siftup", .ref 56)] [(S_ "heap", .ref a), (S_ "item", new.val)] C kb S (ho := by rfl) (by kernel_rfl!) (by rfl) (BindsTo.of_eq rfl) (by kernel_rfl!) (by kernel_rfl!) (by kernel_rfl!) (by kernel_rfl!) (by kernel_rfl!) (by rfl) (by rfl) (by rfl) (by rfl) (by rfl) ?_
  intro A' env L s₁ C' O G S'
  clear S
  (repeat wtm_at "z")
  refine g_item (by wtm_at "zrd") (by omega) (by omega) (v := x.val) rfl ?_
  (repeat wtm_at "z")
  refine s_item (by assumption) (by wtm_at "zhole") (by omega) (by omega) (by simp) ?_
  intro s S
  (repeat wtm_at "z")
  rename St B os _ _ => S
  have S' : St B os _ [_, (a, IsL (List.map It.val (new :: r)))] := S
  refine frame S' (lc := [(a, IsL (List.map It.val (new :: r)))]) (by wtm_at "zpick") (fun B' hB hf S' => ?_)
  refine siftup_spec (k := k) (pos := 0) (new := new) C' (kb.sub hB) (fun i hi => ?_) rfl (by simp only [List.length_cons]; omega) S' (fun s' S'' => ⟨_, S'', fun S3 => ?_⟩)
  · rcases List.mem_cons.mp hi with rfl | hi
    · exact hnew.sub hB
    · exact (hI i (.tail _ hi)).sub hB
  · simp only [List.cons_append, List.nil_append] at S3
    have S4 := S3.perm (List.Perm.swap _ _ _)
    (repeat wtm_at "z")
    exact h _ (S4.sub (List.sublist_cons_self _ _))

theorem sdown_len (new : It) (start : Nat) : ∀ (f pos : Nat) (its : List It), (sdown new start f pos its).length = its.length := by
  intro f
  induction f with
  | zero => intro pos its; simp [sdown]
  | succ f ih =>
    intro pos its
    simp only [sdown]
    split
    · split
      · split
        · rw [ih, List.length_set]
        · rw [List.length_set]
      · rw [List.length_set]
    · rw [List.length_set]
theorem sdown_in {P : It → Prop} (new : It) (start : Nat) (hn : P new) : ∀ (f pos : Nat) (its : List It), (∀ i ∈ its, P i) → ∀ i ∈ sdown new start f pos its, P i := by
  have one : ∀ (pos : Nat) (its : List It) (x : It), P x → (∀ i ∈ its, P i) → ∀ i ∈ its.set pos x, P i := by
    intro pos its x hx h i hi
    rcases List.mem_or_eq_of_mem_set hi with q | q
    · exact h i q
    · rw [q]; exact hx
  intro f
  induction f with
  | zero => intro pos its h; exact one pos its new hn h
  | succ f ih =>
    intro pos its h
    simp only [sdown]
    split
    · split
      · rename_i par hpar
        split
        · exact ih _ _ (one _ _ _ (h _ (List.mem_of_getElem? hpar)) h)
        · exact one pos its new hn h
      · exact one pos its new hn h
    · exact one pos its new hn h
theorem supL_len (new : It) : ∀ (f pos : Nat) (its : List It), (supL new f pos its).2.length = its.length := by
  intro f
  induction f with
  | zero => intro pos its; rfl
  | succ f ih =>
    intro pos its
    simp only [supL]
    split
    · rw [ih, List.length_set]
    · rfl
theorem supL_in {P : It → Prop} (new : It) (hn : P new) : ∀ (f pos : Nat) (its : List It), (∀ i ∈ its, P i) → ∀ i ∈ (supL new f pos its).2, P i := by
  intro f
  induction f with
  | zero => intro pos its h; exact h
  | succ f ih =>
    intro pos its h
    simp only [supL]
    split
    · refine ih _ _ fun i hi => ?_
      rcases List.mem_or_eq_of_mem_set hi with q | q
      · exact h i q
      · rw [q, List.getD_eq_getElem?_getD]
        cases hg : its[if 2 * pos + 2 < its.length ∧ (its.getD (2 * pos + 1) new).lt (its.getD (2 * pos + 2) new) = false then 2 * pos + 2 else 2 * pos + 1]? with
        | none => exact hn
        | some y => exact h _ (List.mem_of_getElem? hg)
    · exact h
theorem siftup_len (new : It) (its : List It) (pos : Nat) : (siftup new its pos).length = its.length := by
  unfold siftup; rw [sdown_len, List.length_set, supL_len]
theorem siftup_in {P : It → Prop} {new : It} {its : List It} (pos : Nat) (hn : P new) (h : ∀ i ∈ its, P i) : ∀ i ∈ siftup new its pos, P i := by
  unfold siftup
  refine sdown_in _ _ hn _ _ _ fun i hi => ?_
  rcases List.mem_or_eq_of_mem_set hi with q | q
  · exact supL_in _ hn _ _ _ h i q
  · rw [q]; exact hn

theorem b_fdiv {prog : Program} {w : World} {A : Around} {E : Value → Shared → Prop} {s : Shared} {B : Heap} {os : OsState} {l : Led} {Q : Value → Shared → Prop} {x y : Int} {t u : Tok} (S : St B os s l) (hy : y ≠ 0) (hp : Builtin.divisionGoesByPylong x y = false)
    (h : ∀ t s', St B os s' l → Q (.int (x.fdiv y) t) s') : wpAny (model prog w) A (binaryOp .FloorDiv (.int x t) (.int y u)) Q E s := floordiv_int hy (h _ _ S.tok) (.inl hp)

set_option maxHeartbeats 4000000 in
theorem heapify_spec {w : World} {A : Around} {k : Nat} {B : Heap} {os : OsState} {s : Shared} {a : Addr} {i0 i1 i2 i3 i4 j0 j1 j2 j3 j4 : It} {Q E : Value → Shared → Prop}
    (C : Cx A (k + 3)) (kb : KB w B) (hI : ∀ i ∈ [i0, i1, i2, i3, i4], i.In B) (e1 : siftup i1 [i0, i1, i2, i3, i4] 1 = [j0, j1, j2, j3, j4]) (S : St B os s [(a, IsL ([i0, i1, i2, i3, i4].map It.val))])
    (h : ∀ s', St B os s' [(a, IsL ((siftup j0 [j0, j1, j2, j3, j4] 0).map It.val))] → Q .none s') :
    wpAny (model PySem.Challenge.rw_ny0114_01.row.prog w) A (call (.ref 42) [.ref a]) Q E s := by
  refine call_fn [S_ "x", S_ "n", S_ "i"] [(S_ "_siftup", .ref 56), (S_ "len", .builtin "len"), (S_ "reversed", .type "reversed"), (S_ "range", .type "range")] [(S_ "x", .ref a)] C kb S (ho := by rfl) (by kernel_rfl!) (by rfl) (BindsTo.of_eq rfl) (by kernel_rfl!) (by kernel_rfl!) (by kernel_rfl!) (by kernel_rfl!) (by kernel_rfl!) (by rfl) (by rfl) (by rfl) (by rfl) (by rfl) ?_
  intro A' env L s₁ C' O G S'
  clear S
  (repeat wtm_at "z")
  refine len_l (n := 5) (by assumption) (by wtm_at "zmem") rfl (by omega) ?_
  intro te s S
  (repeat wtm_at "z")
  refine b_fdiv (by assumption) (by decide) (by decide) ?_
  intro t s S
  rw [show Int.fdiv (5 : Nat) 2 = 2 from rfl]
  (repeat wtm_at "z")
  refine r_range (by assumption) ?_
  intro R s S
  (repeat wtm_at "z")
  refine rev_range (by assumption) (by wtm_at "zmem") (by decide) (by decide) ?_
  intro I s S
  (repeat wtm_at "z")
  refine it_ri (by assumption) (by wtm_at "zmem") ?_
  have hj : ∀ i ∈ [j0, j1, j2, j3, j4], i.In B := by rw [← e1]; exact siftup_in _ (hI _ (by simp)) hI
  refine f_for (fun i s => match i with
      | 0 => St B os s [(I, IsRI 1 2 (-1)), (L, NsA [(S_ "x", .ref a)]), (a, IsL ([i0, i1, i2, i3, i4].map It.val))]
      | 1 => St B os s [(I, IsRI 0 1 (-1)), (L, NsA [(S_ "x", .ref a)]), (a, IsL ([j0, j1, j2, j3, j4].map It.val))]
      | _ => St B os s [(I, IsRI (-1) 0 (-1)), (L, NsA [(S_ "x", .ref a)]), (a, IsL ((siftup j0 [j0, j1, j2, j3, j4] 0).map It.val))]) 2 ?_ ?_ ?_
  · exact (S.namesH [(S_ "x", .ref a)] (by wtm_at "zhole") (by wtm_at "zsub") (by kernel_rfl!)).sub (by wtm_at "zsl")
  · intro i s hi S
    obtain rfl | rfl : i = 0 ∨ i = 1 := by omega
    · have S : St B os s [(I, IsRI 1 2 (-1)), (L, NsA [(S_ "x", .ref a)]), (a, IsL ([i0, i1, i2, i3, i4].map It.val))] := S
      refine nx_ri (by assumption) (by wtm_at "zhole") (by decide) ?_
      intro t s S
      (repeat wtm_at "z")
      rename St B os _ _ => S
      refine frame S (lc := [(a, IsL (List.map It.val [i0, i1, i2, i3, i4]))]) (by wtm_at "zpick") (fun B' hB hf S' => ?_)
      refine siftup_spec (k := k) (pos := 1) (new := i1) C' (kb.sub hB) (fun i hi => (hI i hi).sub hB) rfl (by simp) S' (fun s' S'' => ⟨_, S'', fun S3 => ?_⟩)
      simp only [List.cons_append, List.nil_append, e1] at S3
      (repeat wtm_at "z")
      have S4 := (S3.namesH [(S_ "x", .ref a)] (by wtm_at "zhole") (by wtm_at "zsub") (by kernel_rfl!)).pick (lc := [(I, _), (L, _), (a, _)]) (by wtm_at "zpick")
      exact f_next S4
    · have S : St B os s [(I, IsRI 0 1 (-1)), (L, NsA [(S_ "x", .ref a)]), (a, IsL ([j0, j1, j2, j3, j4].map It.val))] := S
      refine nx_ri (by assumption) (by wtm_at "zhole") (by decide) ?_
      intro t s S
      (repeat wtm_at "z")
      rename St B os _ _ => S
      refine frame S (lc := [(a, IsL (List.map It.val [j0, j1, j2, j3, j4]))]) (by wtm_at "zpick") (fun B' hB hf S' => ?_)
      refine siftup_spec (k := k) (pos := 0) (new := j0) C' (kb.sub hB) (fun i hi => (hj i hi).sub hB) rfl (by simp) S' (fun s' S'' => ⟨_, S'', fun S3 => ?_⟩)
      simp only [List.cons_append, List.nil_append] at S3
      (repeat wtm_at "z")
      have S4 := (S3.namesH [(S_ "x", .ref a)] (by wtm_at "zhole") (by wtm_at "zsub") (by kernel_rfl!)).pick (lc := [(I, _), (L, _), (a, _)]) (by wtm_at "zpick")
      exact f_next S4
  · intro s S
    have S : St B os s [(I, IsRI (-1) 0 (-1)), (L, NsA [(S_ "x", .ref a)]), (a, IsL ((siftup j0 [j0, j1, j2, j3, j4] 0).map It.val))] := S
    refine nx_riE C'.handled S (by wtm_at "ztake") (by decide) ?_
    intro s S
    refine ⟨rfl, ?_⟩
    (repeat wtm_at "z")
    exact h _ (S.sub (List.sublist_cons_self _ _))
/-! text Ig -/
noncomputable abbrev PRG : Program := PySem.Challenge.rw_ny0114_01.row.prog

/-- the object that _Ignore(names) makes -/
structure Rd where
  x : Addr
  dx : Addr
  ms : Addr
  dr : Addr
  ig : Addr
noncomputable def Rd.attrs (r : Rd) : List (Str × Value) := [(S_ "_ignore", .ref r.ig), (S_ "_dirs", .ref r.dr), (S_ "_mods", .ref r.ms)]
noncomputable abbrev K0 : Str := Str.ofString "<string>"

set_option maxHeartbeats 4000000 in
theorem ignore_spec {w : World} {A : Around} {k : Nat} {B : Heap} {os : OsState} {s : Shared} {a : Addr} {vs : List Value} {xs : List Str} {Q E : Value → Shared → Prop}
    (C : Cx A (k + 2)) (kb : KB w B) (ha : At B a (IsL vs)) (hx : StrsOf vs xs) (hne : xs ≠ []) (hnd : xs.Nodup) (hlen : xs.length < 1000) (S : St B os s [])
    (h : ∀ (r : Rd) t s', r.ig ≠ 1 → St B os s' [(r.ig, DictG (strKind PRG w) [(K0, .int 1 t)]), (r.dr, IsL []), (r.ms, SetA PRG w xs), (r.x, InstA 114 r.dx), (r.dx, AttrA r.attrs)] → Q (.ref r.x) s') :
    wpAny (model PRG w) A (call (.ref 114) [.ref a]) Q E s := by
  refine new_inst (k := k + 1) C kb S (by kernel_rfl!) (fI := 104) (by kernel_rfl!) (by kernel_rfl!) ?_
  intro A1 x dx s1 C1 S1
  have hvl : vs.length = xs.length := hx.length
  refine code_fn [S_ "self", S_ "modules", S_ "dirs"] [(S_ "set", .type "set")] [(S_ "self", .ref x), (S_ "modules", .ref a), (S_ "dirs", .none)] C1 kb S1 (ho := by rfl) (by kernel_rfl!) (by rfl)
    (binds_K (kb.sub S1.keep).k rfl (ho := by rfl) rfl rfl rfl) (by kernel_rfl!) (by kernel_rfl!) (by kernel_rfl!) (by kernel_rfl!) (by kernel_rfl!) (by rfl) (by rfl) (by rfl) (by rfl) (by rfl) ?_
  intro A' env L s₁ C' O G S'
  clear S1 S
  (repeat wtm_at "z")
  refine tr_listA (by assumption) (ha.sub (St.keep (by assumption))) (by lia) ?_
  intro s S
  have hvs : vs.isEmpty = false := by
    cases vs with
    | nil => simp at hvl; exact absurd (List.length_eq_zero_iff.mp hvl.symm) hne
    | cons _ _ => rfl
  refine ie_false (by rw [hvs]; rfl) ?_
  (repeat wtm_at "z")
  refine call_set_strs C'.handled (by assumption) (ha.sub (St.keep (by assumption))) hx hnd (by unfold scanBound; lia) ?_
  intro ms s S
  (repeat wtm_at "z")
  refine s_attr kb (by assumption) (by wtm_at "zrd") (by wtm_at "zhole") (by kernel_rfl!) (by kernel_rfl!) (by kernel_rfl!) (by kernel_rfl!) (by simp) ?_
  intro s S
  (repeat wtm_at "z")
  refine ie_true rfl ?_
  (repeat wtm_at "z")
  refine new_list (by assumption) (by simp) ?_
  intro dr s S
  (repeat wtm_at "z")
  refine s_attr kb (by assumption) (by wtm_at "zrd") (by wtm_at "zhole") (by kernel_rfl!) (by kernel_rfl!) (by kernel_rfl!) (by kernel_rfl!) (by simp) ?_
  intro s S
  (repeat wtm_at "z")
  refine d_disp1 (knd := strKind PRG w) (by assumption) ?_ (St.big kb (by assumption))
  intro ig s hig S
  (repeat wtm_at "z")
  refine ⟨K0, _, _, strKind_is _ _ _ _, by assumption, by wtm_at "zhole", ?_⟩
  intro s S
  (repeat wtm_at "z")
  refine s_attr kb (by assumption) (by wtm_at "zrd") (by wtm_at "zhole") (by kernel_rfl!) (by kernel_rfl!) (by kernel_rfl!) (by kernel_rfl!) (by simp) ?_
  intro s S
  (repeat wtm_at "z")
  exact ⟨rfl, h ⟨x, dx, ms, dr, ig⟩ _ _ hig (S.pick (lc := [(ig, _), (dr, _), (ms, _), (x, _), (dx, _)]) (by wtm_at "zpick"))⟩
/-! text Nm -/
/-- the object's standing parts -/
structure RdIn (w : World) (B : Heap) (r : Rd) (xs : List Str) : Prop where
  x : At B r.x (InstA 114 r.dx)
  dx : At B r.dx (AttrA r.attrs)
  ms : At B r.ms (SetA PRG w xs)
  dr : At B r.dr (IsL [])
  ig : r.ig ≠ 1
theorem RdIn.sub {w : World} {B B' : Heap} {r : Rd} {xs : List Str} (R : RdIn w B r xs) (k : Sub B B') : RdIn w B' r xs := ⟨R.x.sub k, R.dx.sub k, R.ms.sub k, R.dr.sub k, R.ig⟩
section
variable {w : World} {A : Around} {E : Value → Shared → Prop} {s : Shared} {B : Heap} {os : OsState} {l : Led} {r : Rd} {xs : List Str} {Q : Value → Shared → Prop}
theorem ra_ignore (R : RdIn w B r xs) (kb : KB w B) (S : St B os s l) (h : ∀ s', St B os s' l → Q (.ref r.ig) s') : wpAny (model PRG w) A (getAttr (.ref r.x) (Str.ofString "_ignore") true) Q E s :=
  g_attr kb S (R.x.sub S.keep) (R.dx.sub S.keep) (by kernel_rfl!) (by kernel_rfl!) (attr := none) (by kernel_rfl!) (by kernel_rfl!) (by rfl) rfl h
theorem ra_dirs (R : RdIn w B r xs) (kb : KB w B) (S : St B os s l) (h : ∀ s', St B os s' l → Q (.ref r.dr) s') : wpAny (model PRG w) A (getAttr (.ref r.x) (Str.ofString "_dirs") true) Q E s :=
  g_attr kb S (R.x.sub S.keep) (R.dx.sub S.keep) (by kernel_rfl!) (by kernel_rfl!) (attr := none) (by kernel_rfl!) (by kernel_rfl!) (by rfl) rfl h
theorem ra_mods (R : RdIn w B r xs) (kb : KB w B) (S : St B os s l) (h : ∀ s', St B os s' l → Q (.ref r.ms) s') : wpAny (model PRG w) A (getAttr (.ref r.x) (Str.ofString "_mods") true) Q E s :=
  g_attr kb S (R.x.sub S.keep) (R.dx.sub S.keep) (by kernel_rfl!) (by kernel_rfl!) (attr := none) (by kernel_rfl!) (by kernel_rfl!) (by rfl) rfl h
theorem rm_names {pl : Sem Bool} {Q : Value × List Value → Shared → Prop} (R : RdIn w B r xs) (kb : KB w B) (S : St B os s l) (h : Q (.ref 111, [.ref r.x]) s) : wpAny (model PRG w) A (getMethod (.ref r.x) (Str.ofString "names") pl) Q E s :=
  m_inst kb S (R.x.sub S.keep) (R.dx.sub S.keep) (by kernel_rfl!) (by kernel_rfl!) (by kernel_rfl!) (by rfl) h
end
/-- does the name fall under the names xs? -/
noncomputable def hitB (xs : List Str) (mn : Str) : Bool := xs.any fun m => decide (mn = m) || Txt.startswith mn (m ++ Str.ofString ".")
theorem stored_new {kvs : List (Str × Value)} {k : Str} {v : Value} (h : valueAt kvs k = none) : stored kvs k v = kvs ++ [(k, v)] := by
  unfold stored
  rw [if_neg]
  intro ha
  obtain ⟨kv, hkv, he⟩ := List.any_eq_true.mp ha
  unfold valueAt at h
  have := List.find?_eq_none.mp (Option.map_eq_none_iff.mp h) kv hkv
  exact this he

set_option pp.deepTerms false in
set_option maxHeartbeats 4000000 in
theorem names_spec {w : World} {A : Around} {k : Nat} {B : Heap} {os : OsState} {s : Shared} {r : Rd} {xs : List Str} {mn fn : Str} {t1 t2 : Tok} {kvs : List (Str × Value)} {Q E : Value → Shared → Prop}
    (C : Cx A (k + 1)) (kb : KB w B) (R : RdIn w B r xs) (hne : xs ≠ []) (hlen : xs.length < 1000) (hxl : ∀ x ∈ xs, x.length < 2 ^ 20) (hv : valueAt kvs mn = none) (hz : kvs.length < 2 ^ 20) (S : St B os s [(r.ig, DictG (strKind PRG w) kvs)])
    (h : ∀ t t' s', St B os s' [(r.ig, DictG (strKind PRG w) (kvs ++ [(mn, .int (if hitB xs mn then 1 else 0) t)]))] → Q (.int (if hitB xs mn then 1 else 0) t') s') :
    wpAny (model PRG w) A (call (.ref 111) [.ref r.x, .str fn t1, .str mn t2]) Q E s := by
  refine call_fn [S_ "self", S_ "filename", S_ "modulename", S_ "mod", S_ "d"] [] [(S_ "self", .ref r.x), (S_ "filename", .str fn t1), (S_ "modulename", .str mn t2)] C kb S (ho := by rfl) (by kernel_rfl!) (by rfl) (BindsTo.of_eq rfl) (by kernel_rfl!) (by kernel_rfl!) (by kernel_rfl!) (by kernel_rfl!) (by kernel_rfl!) (by rfl) (by rfl) (by rfl) (by rfl) (by rfl) ?_
  intro A' env L s₁ C' O G S'
  clear S
  (repeat wtm_at "z")
  refine e_if ?_
  (repeat wtm_at "z")
  refine ra_ignore R kb (by assumption) ?_
  intro s S
  (repeat wtm_at "z")
  refine in_dict (k := mn) (by assumption) (by wtm_at "zrd") R.ig (strKind_is _ _ _ _) ?_
  intro s S
  (repeat wtm_at "z")
  refine i_false (by rw [hv]; rfl) ?_
  (repeat wtm_at "z")
  refine e_if ?_
  (repeat wtm_at "z")
  refine ra_mods R kb (by assumption) ?_
  intro s S
  (repeat wtm_at "z")
  refine in_set (by assumption) (R.ms.sub (St.keep (by assumption))) ?_
  intro s S
  (repeat wtm_at "z")
  refine i_case (fun hm => ?_) (fun hm => ?_)
  · have hhit : hitB xs mn = true := by
      rw [decide_eq_true_eq] at hm
      exact List.any_eq_true.mpr ⟨mn, hm, by simp⟩
    rw [hhit] at h
    (repeat wtm_at "z")
    refine ra_ignore R kb (by assumption) ?_
    intro s S
    (repeat wtm_at "z")
    refine s_dict (k := mn) (by assumption) (by wtm_at "zhole") (strKind_is _ _ _ _) hz ?_
    intro s S
    rw [stored_new hv] at S
    (repeat wtm_at "z")
    rename St B os _ _ => S
    exact h _ _ _ (S.sub (List.sublist_cons_self _ _))
  · rw [decide_eq_false_iff_not] at hm
    (repeat wtm_at "z")
    refine ra_mods R kb (by assumption) ?_
    intro s S
    refine f_set (fun m => Txt.startswith mn (m ++ Str.ofString ".") = false) C'.handled hne (by lia) (by assumption) R.ms ?_ ?_
    · intro B' m tk s' kB hmx S'
      have kb' := kb.sub kB
      have R' := R.sub kB
      have hml := hxl m hmx
      (repeat wtm_at "z")
      refine e_if ?_
      (repeat wtm_at "z")
      refine b_addS (by assumption) (by show m.length + 1 < _; lia) ?_
      intro t s S
      (repeat wtm_at "z")
      refine i_case (fun hm => ?_) (fun hm => ?_)
      · have hhit : hitB xs mn = true := List.any_eq_true.mpr ⟨m, hmx, by rw [hm]; simp⟩
        rw [hhit] at h
        (repeat wtm_at "z")
        refine ra_ignore R' kb' (by assumption) ?_
        intro s S
        (repeat wtm_at "z")
        refine s_dict (k := mn) (by assumption) (by wtm_at "zhole") (strKind_is _ _ _ _) hz ?_
        intro s S
        rw [stored_new hv] at S
        (repeat wtm_at "z")
        refine ⟨_, by assumption, fun S => ?_⟩
        (repeat wtm_at "z")
        exact h _ _ _ (S.sub (List.sublist_cons_self _ _))
      · (repeat wtm_at "z")
        rename St B' os _ _ => S
        exact ⟨S.names [(S_ "self", .ref r.x), (S_ "filename", .str fn t1), (S_ "modulename", .str mn t2)] (by wtm_at "zsub") (by kernel_rfl!), hm⟩
    · intro s' S' hall
      have hhit : hitB xs mn = false := by
        refine List.any_eq_false.mpr fun m hmx => ?_
        have h1 : mn ≠ m := fun e => hm (e ▸ hmx)
        simp [h1, hall m hmx]
      rw [hhit] at h
      (repeat wtm_at "z")
      refine e_if ?_
      (repeat wtm_at "z")
      refine i_false rfl ?_
      (repeat wtm_at "z")
      refine ra_dirs R kb (by assumption) ?_
      intro s S
      refine it_list (by assumption) (R.dr.sub (St.keep (by assumption))) ?_
      intro I s S
      refine f_for (fun _ s => St B os s _) 0 (by assumption) (fun i s hi _ => absurd hi (by lia)) (fun s S => ?_)
      refine nx_liE C'.handled (by assumption) (by wtm_at "ztake") (R.dr.sub (St.keep (by assumption))) rfl ?_
      intro s S
      refine ⟨rfl, ?_⟩
      (repeat wtm_at "z")
      refine ra_ignore R kb (by assumption) ?_
      intro s S
      (repeat wtm_at "z")
      refine s_dict (k := mn) (by assumption) (by wtm_at "zhole") (strKind_is _ _ _ _) hz ?_
      intro s S
      rw [stored_new hv] at S
      (repeat wtm_at "z")
      rename St B os _ _ => S
      exact h _ _ _ (S.sub (List.sublist_cons_self _ _))
/-! text Pt -/
/-! plain text: rows of parts joined by dots -/
noncomputable def enc1 (b : Bool) : List Nat := if b then [97, 98, 46] else [97, 46]
noncomputable def enc (r : List Bool) : List Nat := r.flatMap enc1
theorem part_cps (b : Bool) : (part b).cps.toList ++ [46] = enc1 b := by cases b <;> rfl
noncomputable def joinB (r : List Bool) : Str := Txt.join (Str.ofString ".") (r.map part)
theorem joinB_cps : ∀ (r : List Bool), r ≠ [] → (joinB r).cps.toList ++ [46] = enc r
  | [], h => (h rfl).elim
  | [b], _ => by
    show (part b).cps.toList ++ [46] = enc1 b ++ []
    rw [List.append_nil, part_cps]
  | b :: c :: r, _ => by
    have ih := joinB_cps (c :: r) (by simp)
    have e : joinB (b :: c :: r) = part b ++ Str.ofString "." ++ joinB (c :: r) := by
      unfold joinB Txt.join
      rw [PySem.StrLaws.glued_eq_join, PySem.StrLaws.glued_eq_join]; rfl
    rw [e]
    show ((part b).cps ++ (Str.ofString ".").cps ++ (joinB (c :: r)).cps).toList ++ [46] = enc1 b ++ enc (c :: r)
    rw [Array.toList_append, Array.toList_append, ← ih, ← part_cps]
    simp only [List.append_assoc]
    rfl
theorem enc_prefix : ∀ (c r : List Bool), enc c <+: enc r ↔ c <+: r
  | [], r => by simp [enc]
  | b :: c, [] => by
    refine ⟨fun h => ?_, fun h => by simp at h⟩
    have := h.length_le
    cases b <;> simp [enc, enc1] at this
  | b :: c, d :: r => by
    have ih := enc_prefix c r
    show (enc1 b ++ enc c) <+: (enc1 d ++ enc r) ↔ _
    rw [List.cons_prefix_cons, ← ih]
    cases b <;> cases d
    · simp [enc1, List.cons_prefix_cons]
    · simp [enc1, List.cons_prefix_cons]
    · simp [enc1, List.cons_prefix_cons]
    · simp [enc1, List.cons_prefix_cons]
theorem startswith_iff (x y : Str) : Txt.startswith x y = true ↔ y.cps.toList <+: x.cps.toList := by
  unfold Txt.startswith
  rw [Bool.and_eq_true, decide_eq_true_eq]
  have : PySem.Builtin.Str.subAt x y 0 = true ↔ x.cps.extract 0 (0 + y.length) = y.cps := by unfold PySem.Builtin.Str.subAt; exact beq_iff_eq
  rw [this]
  constructor
  · rintro ⟨h1, h2⟩
    have h3 := congrArg Array.toList h2
    simp only [Array.toList_extract, Nat.zero_add] at h3
    rw [← h3]
    simp only [List.extract_eq_take_drop, List.drop_zero, Nat.sub_zero]
    exact List.take_prefix _ _
  · intro h
    have hl := h.length_le
    have e : y.length = y.cps.toList.length := by simp [Str.length]
    refine ⟨by simp [Str.length] at hl ⊢; exact hl, ?_⟩
    apply Array.ext'
    simp only [Array.toList_extract, Nat.zero_add, List.extract_eq_take_drop, List.drop_zero, Nat.sub_zero]
    rw [e]
    exact (List.prefix_iff_eq_take.mp h).symm
theorem prefix_snoc {α : Type} {a b : List α} {x : α} : a <+: b ++ [x] ↔ a = b ++ [x] ∨ a <+: b := List.prefix_concat_iff
theorem str_ext {x y : Str} (h : x.cps.toList = y.cps.toList) : x = y := by
  cases x; cases y; simp at h; rw [h]
/-- a name falls under another iff the row goes on from the code -/
theorem hit_iff {c r : List Bool} (hc : c ≠ []) (hr : r ≠ []) : (decide (joinB r = joinB c) || Txt.startswith (joinB r) (joinB c ++ Str.ofString ".")) = true ↔ c <+: r := by
  rw [Bool.or_eq_true, decide_eq_true_eq, startswith_iff, ← enc_prefix, ← joinB_cps c hc, ← joinB_cps r hr, prefix_snoc]
  have e : (joinB c ++ Str.ofString ".").cps.toList = (joinB c).cps.toList ++ [46] := Array.toList_append ..
  rw [e]
  constructor
  · rintro (h | h)
    · rw [h]; exact .inl rfl
    · exact .inr h
  · rintro (h | h)
    · exact .inl (str_ext (List.append_cancel_right h).symm)
    · exact .inr h
theorem joinB_inj {c r : List Bool} (hc : c ≠ []) (hr : r ≠ []) (h : joinB c = joinB r) : c = r := by
  have e : enc c = enc r := by rw [← joinB_cps c hc, ← joinB_cps r hr, h]
  have h1 : c <+: r := (enc_prefix _ _).mp (by rw [e]; exact List.prefix_refl _)
  have h2 : r <+: c := (enc_prefix _ _).mp (by rw [e]; exact List.prefix_refl _)
  exact h1.eq_of_length (Nat.le_antisymm h1.length_le h2.length_le)
theorem joinB_ne_K0 {c : List Bool} (hc : c ≠ []) : joinB c ≠ K0 := by
  intro h
  have e := joinB_cps c hc
  rw [h] at e
  cases c with
  | nil => exact hc rfl
  | cons b r =>
    have : (enc (b :: r)).head? = some 97 := by cases b <;> rfl
    rw [← e] at this
    have h2 : (K0.cps.toList ++ [46]).head? = some 60 := by decide +kernel
    rw [h2] at this; cases this
/-! text Cd -/
theorem run_len {its0 its : List It} {prs : List (Int × Int)} (h : Run its0 its prs) : its.length + prs.length = its0.length := by
  induction h with
  | start => rfl
  | @step ini r lst x new prs _ hp _ _ ih =>
    have h1 : (popRest ini lst).length = ini.length := by
      unfold popRest
      cases ini with
      | nil => rfl
      | cons _ _ => dsimp only; rw [siftup_len]; rfl
    rw [hp] at h1
    simp only [List.length_cons, List.length_append, List.length_nil] at ih h1 ⊢
    rw [siftup_len]; simp only [List.length_cons]; lia
/-- the pairs as tuples -/
inductive PairsAt (B : Heap) : List Value → List (Int × Int) → Prop
  | nil : PairsAt B [] []
  | cons {v : Value} {p : Int × Int} {vs : List Value} {ps : List (Int × Int)} : (∃ T t u, v = .ref T ∧ At B T (IsT [.int p.1 t, .int p.2 u])) → PairsAt B vs ps → PairsAt B (v :: vs) (p :: ps)
theorem PairsAt.sub {B B' : Heap} {vs : List Value} {ps : List (Int × Int)} (k : Sub B B') (x : PairsAt B vs ps) : PairsAt B' vs ps := by
  induction x with
  | nil => exact .nil
  | cons h _ ih => obtain ⟨T, t, u, e, h⟩ := h; exact .cons ⟨T, t, u, e, h.sub k⟩ ih
theorem PairsAt.snoc {B : Heap} {v : Value} {p : Int × Int} {vs : List Value} {ps : List (Int × Int)} (h : ∃ T t u, v = .ref T ∧ At B T (IsT [.int p.1 t, .int p.2 u])) (x : PairsAt B vs ps) : PairsAt B (vs ++ [v]) (ps ++ [p]) := by
  induction x with
  | nil => exact .cons h .nil
  | cons a _ ih => exact .cons a ih
theorem PairsAt.len {B : Heap} {vs : List Value} {ps : List (Int × Int)} (x : PairsAt B vs ps) : vs.length = ps.length := by
  induction x with
  | nil => rfl
  | cons _ _ ih => exact congrArg Nat.succ ih
theorem PairsAt.get {B : Heap} {vs : List Value} {ps : List (Int × Int)} {i : Nat} {p : Int × Int} (x : PairsAt B vs ps) (e : ps[i]? = some p) : ∃ T t u, vs[i]? = some (.ref T) ∧ At B T (IsT [.int p.1 t, .int p.2 u]) := by
  induction x generalizing i with
  | nil => cases e
  | cons h _ ih =>
    cases i with
    | zero => cases e; obtain ⟨T, t, u, rfl, h⟩ := h; exact ⟨T, t, u, rfl, h⟩
    | succ i => exact ih e
set_option pp.deepTerms false in
set_option maxHeartbeats 8000000 in
theorem codes_spec {w : World} {A : Around} {k : Nat} {B : Heap} {os : OsState} {s : Shared} {a : Addr} {its0 : List It} {l : Led} {Q E : Value → Shared → Prop}
    (C : Cx A (k + 4)) (kb : KB w B) (hI : ∀ i ∈ its0, i.In B) (hlen : its0.length = 5) (hx : ∀ its prs, Run its0 its prs → its.length = 1 → ∃ cds, expandT prs 4 = some cds ∧ ∀ k : Nat, k < 5 → (vAt cds k).isSome = true)
    (S : St B os s ((a, IsL (its0.map It.val)) :: l))
    (h : ∀ D B' its prs cds cvs vs s', Sub B B' → Run its0 its prs → its.length = 1 → expandT prs 4 = some cds → CodesAt B' cvs cds → vs.length = 5 → (∀ k : Nat, k < 5 → ∃ v, vs[k]? = some v ∧ valueAt cvs (k : Int) = some v) →
      St B' os s' ((D, IsL vs) :: l) → Q (.ref D) s') :
    wpAny (model PRG w) A (call (.ref 123) [.ref a]) Q E s := by
  refine call_fn1 [S_ "heap", S_ "pairs", S_ "weight", S_ "one", S_ "other", S_ "k"] [(S_ "len", .builtin "len"), (S_ "heappop", .ref 28), (S_ "heapreplace", .ref 35), (S_ "range", .type "range")] [(S_ "heap", .ref a)] [(S_ "heap", .ref a)] (S_ "codes") none C kb S
    (ho := by rfl) (by kernel_rfl!) (by rfl) rfl rfl (fun _ => rfl) (by kernel_rfl!) (by kernel_rfl!) (by kernel_rfl!) (List.forall_mem_singleton.mpr rfl) rfl (by kernel_rfl!) (by kernel_rfl!) (by kernel_rfl!) (by rfl) (by rfl) (by rfl) (by rfl) (by rfl) ?_
  intro A' env L c s₁ C' O hkc G S'
  clear S
  (repeat wtm_at "z")
  refine new_list (by assumption) (by simp) ?_
  intro P s S
  (repeat wtm_at "z")
  rename St B os _ _ => S
  refine w_whileP (fun n s => ∃ B' its prs pvs, Sub B B' ∧ Run its0 its prs ∧ (∀ i ∈ its, i.In B') ∧ PairsAt B' pvs prs ∧ its.length = n + 1 ∧ St B' os s ((L, NsA ((S_ "pairs", .ref P) :: (S_ "heap", .ref a) :: [])) :: (P, IsL pvs) :: (c, CellA none) :: (a, IsL (its.map It.val)) :: l))
    (fun s => ∃ B' its prs pvs, Sub B B' ∧ Run its0 its prs ∧ PairsAt B' pvs prs ∧ its.length = 1 ∧ St B' os s ((L, NsA ((S_ "pairs", .ref P) :: (S_ "heap", .ref a) :: [])) :: (P, IsL pvs) :: (c, CellA none) :: (a, IsL (its.map It.val)) :: l)) 4
    ⟨B, its0, [], [], Sub.rfl, .start, hI, .nil, hlen, (S.order (lc := [(L, _), (P, _), (c, _), (a, _)]) (by wtm_at "zpick"))⟩ ?_ ?_
  · rintro n s ⟨B1, its, prs, pvs, hB, hR, hIn, hP, hn, S⟩
    have kb1 := kb.sub hB
    have hn5 : n + 1 + prs.length = 5 := by rw [← hn, ← hlen]; exact run_len hR
    have hp5 : prs.length ≤ 5 := hn5 ▸ Nat.le_add_left _ _
    have hn6 : n + 1 ≤ 5 := hn5 ▸ Nat.le_add_right _ _
    clear hn5
    (repeat wtm_at "z")
    refine len_l (n := n + 1) (by assumption) (by wtm_at "zmem") (by rw [List.length_map, hn]) (Nat.lt_of_le_of_lt hn6 (by decide)) ?_
    intro te s S
    (repeat wtm_at "z")
    refine w_case (fun hc => ?_) (fun hc => ?_)
    · have hn1 : 1 ≤ n := Nat.le_of_lt_succ (Int.ofNat_lt.mp (of_decide_eq_true hc))
      obtain ⟨ini, lst, rfl⟩ : ∃ ini lst, its = ini ++ [lst] := ⟨its.dropLast, its.getLast (by intro e; rw [e] at hn; simp at hn), (List.dropLast_concat_getLast _).symm⟩
      have hil : ini.length = n := by simpa using hn
      have hpl : (popRest ini lst).length = ini.length := by
        unfold popRest
        cases ini with
        | nil => rfl
        | cons _ _ => dsimp only; rw [siftup_len]; rfl
      obtain ⟨x, r, hpr⟩ : ∃ x r, popRest ini lst = x :: r := by
        cases h : popRest ini lst with
        | nil => exact absurd hn1 (by rw [← hil, ← hpl, h]; decide)
        | cons x r => exact ⟨x, r, rfl⟩
      (repeat wtm_at "z")
      rename St B1 os _ _ => S
      refine frame S (lc := [(a, IsL (List.map It.val (ini ++ [lst])))]) (by wtm_at "zpick") (fun B' hB' hf S' => ?_)
      refine heappop_spec (k := k) C' (kb1.sub hB') (fun i hi => (hIn i hi).sub hB') (by rw [hil]; exact Nat.lt_of_lt_of_le hn6 (by decide)) S' (fun s' S'' => ⟨_, S'', fun S3 => ?_⟩)
      have hret : popRet ini lst ∈ ini ++ [lst] := by
        unfold popRet
        cases ini with
        | nil => simp
        | cons _ _ => simp
      have hrest : ∀ i ∈ x :: r, i.In B1 := by
        rw [← hpr]
        unfold popRest
        cases ini with
        | nil => intro i hi; cases hi
        | cons y ys => exact siftup_in 0 (hIn lst (by simp)) (fun i hi => hIn i (by simp at hi ⊢; rcases hi with h | h; exact .inr (.inr h); exact .inr (.inl h)))
      simp only [List.cons_append, List.nil_append] at S3
      clear S S' S''
      rw [hpr] at S3
      show wpAny _ _ (assign _ _ (.ref (popRet ini lst).a)) _ _ _
      refine a_pairN C'.handled O (by assumption) ((hIn _ hret).sub (St.keep (by assumption))) (by wtm_at "zhole") (by wtm_at "zmem") (by wtm_at "zmem") (by kernel_rfl!) (by kernel_rfl!) (by kernel_rfl!) ?_
      intro s S
      (repeat wtm_at "z")
      refine g_item (by wtm_at "zrd") (by decide) (by decide) (v := x.val) rfl ?_
      (repeat wtm_at "z")
      refine t_item (vs := [.int x.w x.tw, .int x.k x.tk]) ((hrest x (by simp)).sub (St.keep (by assumption))) (by decide) (by decide) (j := 0) rfl rfl ?_
      (repeat wtm_at "z")
      refine len_l (n := prs.length) (by assumption) (by wtm_at "zmem") hP.len (Nat.lt_of_le_of_lt hp5 (by decide)) ?_
      intro te2 s S
      (repeat wtm_at "z")
      refine new_tup (by assumption) (by simp) ?_
      intro T s S
      (repeat wtm_at "z")
      clear S3
      rename St B1 os _ _ => S
      obtain ⟨B2, hB2, hT, -, S2⟩ := S.absorb (lc := [(T, _)]) (by wtm_at "zpick")
      have hT := hT _ List.mem_cons_self
      clear S
      have kb2 := kb1.sub hB2
      obtain ⟨new, hnw, hnk, hnv, hnI⟩ : ∃ new : It, new.w = (popRet ini lst).w + x.w ∧ new.k = 5 + prs.length ∧ new.val = .ref T ∧ new.In B2 := ⟨⟨T, _, _, _, _⟩, rfl, rfl, rfl, hT⟩
      rw [← hnv]
      have hR2 := Run.step hR hpr hnw hnk
      have hrl : r.length + 1 = n := by rw [← hil, ← hpl, hpr]; rfl
      refine frame S2 (lc := [(a, IsL (List.map It.val (x :: r)))]) (by wtm_at "zpick") (fun B' hB' hf S' => ?_)
      refine heapreplace_spec (k := k) C' (kb2.sub hB') (fun i hi => ((hrest i hi).sub hB2).sub hB') (hnI.sub hB') (Nat.lt_of_lt_of_le (Nat.lt_of_succ_le (hrl ▸ Nat.le_of_succ_le hn6)) (by decide)) S' (fun s' S'' => ⟨_, S'', fun S3 => ?_⟩)
      simp only [List.cons_append, List.nil_append] at S3
      clear S2 S' S''
      (repeat wtm_at "z")
      refine m_append (by wtm_at "zrd") ?_
      (repeat wtm_at "z")
      refine t_item (vs := [.int x.w x.tw, .int x.k x.tk]) (((hrest x (by simp)).sub hB2).sub (St.keep (by assumption))) (by decide) (by decide) (j := 1) rfl rfl ?_
      (repeat wtm_at "z")
      refine new_tup (by assumption) (by simp) ?_
      intro U s S
      (repeat wtm_at "z")
      clear S3
      rename St B2 os _ _ => S
      obtain ⟨B3, hB3, hU, -, S3⟩ := S.absorb (lc := [(U, _)]) (by wtm_at "zpick")
      have hU := hU _ List.mem_cons_self
      clear S
      refine l_append (by assumption) (by wtm_at "zhole") (by rw [hP.len]; exact Nat.lt_of_le_of_lt hp5 (by decide)) ?_
      intro s S
      clear S3
      (repeat wtm_at "z")
      rename St B3 os _ _ => S
      have hsl : (siftup new (new :: r) 0).length = n := by rw [siftup_len]; exact hrl
      refine t_next (m := n - 1) (Nat.sub_lt hn1 Nat.one_pos) ⟨B3, _, _, _, hB.trans (hB2.trans hB3), hR2, ?_, (hP.sub (hB2.trans hB3)).snoc ⟨U, _, _, rfl, hU⟩, hsl.trans (Nat.sub_add_cancel hn1).symm, (S.order (lc := [(L, _), (P, _), (c, _), (a, _)]) (by wtm_at "zpick")).names _ (by wtm_at "zsub") (by kernel_rfl!)⟩
      refine siftup_in 0 (hnI.sub hB3) fun i hi => ?_
      rcases List.mem_cons.mp hi with rfl | hi
      · exact hnI.sub hB3
      · exact ((hrest i (.tail _ hi)).sub hB2).sub hB3
    · (repeat wtm_at "z")
      have hn0 : n = 0 := Nat.le_zero.mp (Nat.le_of_succ_le_succ (Nat.le_of_lt_succ (Nat.lt_succ_of_le (Nat.not_lt.mp fun q => of_decide_eq_false hc (Int.ofNat_lt.mpr q)))))
      exact ⟨rfl, B1, its, prs, pvs, hB, hR, hP, by rw [hn, hn0], by assumption⟩
  · rintro s ⟨B1, its, prs, pvs, hB, hR, hP, h1, S⟩
    have kb1 := kb.sub hB
    have hl := run_len hR
    obtain ⟨cds, hcd, hck⟩ := hx its prs hR h1
    (repeat wtm_at "z")
    refine d_disp1 (knd := intKind PRG w) (by assumption) ?_ (St.big kb1 (by assumption))
    intro Dc s hDc S
    (repeat wtm_at "z")
    refine new_list (by assumption) (by simp) ?_
    intro E0 s S
    refine ⟨8, _, _, intKind_is _ _ _ _, by assumption, by wtm_at "zhole", ?_⟩
    intro s S
    (repeat wtm_at "z")
    refine new_list (by assumption) (by simp) ?_
    intro Lst s S
    refine it_list (by assumption) (by wtm_at "zrd") ?_
    intro I s S
    rename St B1 os _ _ => S
    obtain ⟨B2, hB2, hE0, -, S2⟩ := S.absorb (lc := [(E0, _), (Lst, _)]) (by wtm_at "zpick")
    obtain ⟨ks, hLst, hks, hks4⟩ : ∃ ks, At B2 Lst (IsL ks) ∧ (∀ i, i < 4 → ∃ tk, ks[i]? = some (.int ((3 - i : Nat) : Int) tk)) ∧ ks[4]? = none := ⟨_, hE0 _ (List.mem_cons_of_mem _ List.mem_cons_self), (fun i hi => by
      rcases i with _ | _ | _ | _ | i
      · exact ⟨_, rfl⟩
      · exact ⟨_, rfl⟩
      · exact ⟨_, rfl⟩
      · exact ⟨_, rfl⟩
      · exact absurd hi (Nat.not_lt.mpr (Nat.le_add_left 4 i))), rfl⟩
    have hE0 := hE0 _ List.mem_cons_self
    clear S
    refine f_for (fun i s => ∃ B' kvs cds, Sub B2 B' ∧ expandT prs i = some cds ∧ CodesAt B' kvs cds ∧ St B' os s ((L, NsA ((S_ "pairs", .ref P) :: (S_ "heap", .ref a) :: [])) :: (c, CellA (some (.ref Dc))) :: (Dc, DictG (intKind PRG w) kvs) :: (P, IsL pvs) :: (I, IsLI Lst i) :: (a, IsL (its.map It.val)) :: l)) 4
      ⟨B2, _, _, Sub.rfl, rfl, .cons ⟨E0, [], rfl, hE0, .nil⟩ .nil, S2.order (lc := [(L, _), (c, _), (Dc, _), (P, _), (I, _), (a, _)]) (by wtm_at "zpick")⟩ ?_ ?_
    · rintro i s hi ⟨B3, kvs, cdi, hB3, hcdi, hCo, S⟩
      obtain ⟨cds', hcds'⟩ := expandT_le (i := i + 1) (by rw [hcd]; rfl) hi
      obtain ⟨cd0, pr, c1, c2, e0, e1, e2, e3, e4⟩ := expandT_step hcds'
      rw [hcdi] at e0; cases e0
      obtain ⟨bd1, bd2⟩ := expandT_bd hcdi
      have h2i : 2 * i ≤ 6 := Nat.mul_le_mul_left 2 (Nat.le_of_lt_succ hi)
      have hkl : kvs.length ≤ 7 := by rw [hCo.len]; exact Nat.le_trans bd1 (Nat.add_le_add_left h2i 1)
      have h3i : ((3 - i : Nat) : Int) < 2 ^ 63 := Int.lt_of_le_of_lt (Int.ofNat_le.mpr (Nat.sub_le 3 i)) (by decide)
      have kb3 := kb1.sub (hB2.trans hB3)
      obtain ⟨T, tu, tv, hpv, hT⟩ := (hP.sub (hB2.trans hB3)).get e1
      obtain ⟨v1, hv1, ⟨A1, us1, rfl, hA1, hs1⟩⟩ := hCo.vAt e2
      have hs1l : us1.length ≤ 2 * i := by rw [hs1.length, List.length_map]; exact bd2 _ (vAt_mem e2)
      obtain ⟨tk, htk⟩ := hks i hi
      refine nx_li (by assumption) (by wtm_at "zhole") ((hLst.sub hB3).sub (St.keep (by assumption))) htk ?_
      intro s S
      (repeat wtm_at "z")
      refine g_dict (k := 5 + ((3 - i : Nat) : Int)) (by assumption) (by wtm_at "zrd") (intKind_is _ _ _ _) hv1 ?_
      intro s S
      (repeat wtm_at "z")
      refine new_list (by assumption) (by simp) ?_
      intro W s S
      (repeat wtm_at "z")
      refine b_addL (by assumption) (hA1.sub (St.keep (by assumption))) (by wtm_at "zrd") (Nat.lt_of_le_of_lt (Nat.succ_le_succ (Nat.le_trans hs1l h2i)) (by decide)) ?_
      intro N1 s S
      (repeat wtm_at "z")
      refine g_item (by wtm_at "zrd") (Int.natCast_nonneg _) h3i (v := .ref T) (by rw [Int.toNat_natCast]; exact hpv) ?_
      (repeat wtm_at "z")
      refine t_item (hT.sub (St.keep (by assumption))) (by decide) (by decide) (j := 0) rfl rfl ?_
      refine s_dict (k := pr.1) (by assumption) (by wtm_at "zhole") (intKind_is _ _ _ _) (Nat.lt_of_le_of_lt hkl (by decide)) ?_
      intro s S
      rename St B3 os _ _ => S
      obtain ⟨B4, hB4, hN, -, S4⟩ := S.absorb (lc := [(N1, _)]) (by wtm_at "zpick")
      have hN := hN _ List.mem_cons_self
      have hCo4 : CodesAt B4 (stored kvs pr.1 (.ref N1)) (put cdi pr.1 (c1 ++ [false])) := (hCo.sub hB4).put ⟨N1, _, rfl, hN, by rw [List.map_append]; exact hs1.app (.cons .nil)⟩
      obtain ⟨v2, hv2, ⟨A2, us2, rfl, hA2, hs2⟩⟩ := hCo4.vAt e3
      have hs2l : us2.length ≤ 2 * i + 1 := by
        rw [hs2.length, List.length_map]
        rcases put_mem (vAt_mem e3) with q | q
        · exact Nat.le_succ_of_le (bd2 _ q)
        · rw [show c2 = _ from q, List.length_append]; exact Nat.succ_le_succ (bd2 _ (vAt_mem e2))
      have hkl4 : (stored kvs pr.1 (.ref N1)).length ≤ 8 := by rw [hCo4.len]; exact Nat.le_trans put_len (Nat.succ_le_succ (Nat.le_trans bd1 (Nat.add_le_add_left h2i 1)))
      clear S
      (repeat wtm_at "z")
      refine g_dict (k := 5 + ((3 - i : Nat) : Int)) (by assumption) (by wtm_at "zrd") (intKind_is _ _ _ _) hv2 ?_
      intro s S
      (repeat wtm_at "z")
      refine new_list (by assumption) (by simp) ?_
      intro W2 s S
      (repeat wtm_at "z")
      refine b_addL (by assumption) (hA2.sub (St.keep (by assumption))) (by wtm_at "zrd") (Nat.lt_of_le_of_lt (Nat.succ_le_succ (Nat.le_trans hs2l (Nat.succ_le_succ h2i))) (by decide)) ?_
      intro N2 s S
      (repeat wtm_at "z")
      refine g_item (by wtm_at "zrd") (Int.natCast_nonneg _) h3i (v := .ref T) (by rw [Int.toNat_natCast]; exact hpv) ?_
      (repeat wtm_at "z")
      refine t_item ((hT.sub hB4).sub (St.keep (by assumption))) (by decide) (by decide) (j := 1) rfl rfl ?_
      refine s_dict (k := pr.2) (by assumption) (by wtm_at "zhole") (intKind_is _ _ _ _) (Nat.lt_of_le_of_lt hkl4 (by decide)) ?_
      intro s S
      (repeat wtm_at "z")
      rename St B4 os _ _ => S
      obtain ⟨B5, hB5, hN2, -, S5⟩ := S.absorb (lc := [(N2, _)]) (by wtm_at "zpick")
      have hN2 := hN2 _ List.mem_cons_self
      clear S
      refine f_next ⟨B5, stored (stored kvs pr.1 (.ref N1)) pr.2 (.ref N2), cds', hB3.trans (hB4.trans hB5), hcds', ?_, ?_⟩
      rotate_left
      · exact (S5.pick2 (lc := [(L, _), (c, _), (Dc, _), (P, _), (I, _), (a, _)]) (by wtm_at "zpick") (by wtm_at "zsl")).names _ (by wtm_at "zsub") (by kernel_rfl!)
      · rw [e4]
        exact (hCo4.sub hB5).put ⟨N2, _, rfl, hN2, by rw [List.map_append]; exact hs2.app (.cons .nil)⟩
    · rintro s ⟨B3, kvs, cdi, hB3, hcdi, hCo, S⟩
      have kb3 := kb1.sub (hB2.trans hB3)
      rw [hcd] at hcdi; cases hcdi
      refine nx_liE C'.handled (by assumption) (by wtm_at "ztake") ((hLst.sub hB3).sub (St.keep (by assumption))) hks4 ?_
      intro s S
      refine ⟨rfl, ?_⟩
      (repeat wtm_at "z")
      refine e_comp O (cl := [(S_ "codes", c)]) (by rfl) (by kernel_rfl!) (by rfl) (fun _ => by with_unfolding_all rfl) ?_
      (repeat wtm_at "z")
      refine r_range (by assumption) ?_
      intro Rg s S
      refine it_range (by assumption) (by wtm_at "zmem") (by decide) (by decide) (by decide) ?_
      intro I2 s S
      refine ⟨_, _, _, S, fun s' Q E hk hq => self_ri (S.rd List.mem_cons_self) hk hq, fun D C s3 hk S3 => ?_⟩
      have O' := O.comp (C := C) (lc' := [S_ "k"]) (cl := [(S_ "codes", c)]) (scope := { kind := ScopeKind.function, names := [(Str.ofString ".0", NameKind.local), (Str.ofString "k", NameKind.local), (Str.ofString "codes", NameKind.free)], isGenerator := false, isCoroutine := false }) rfl (by kernel_rfl!) (by simp [freeOk]; decide)
      clear S
      refine loop_range (n := 5) (fun i ys lx => ys.length = i ∧ (∀ k, k < i → ∃ v, ys[k]? = some v ∧ valueAt kvs (k : Int) = some v) ∧ lx = _) step1 mono1 C'.handled O' (by wtm_at "zmem") S3 ⟨rfl, (fun k hk => absurd hk (Nat.not_lt_zero k)), rfl⟩ ?_ ?_
      · rintro i ys lx t B' s hi hB' ⟨hy1, hy2, rfl⟩ S
        refine Body0.one ?_
        obtain ⟨cv, hcv⟩ := Option.isSome_iff_exists.mp (hck i hi)
        obtain ⟨v, hv, _⟩ := hCo.vAt hcv
        (repeat wtm_at "z")
        refine g_dict (k := (i : Int)) (by assumption) (by wtm_at "zrd") (intKind_is _ _ _ _) hv ?_
        intro s S
        refine l_append (by assumption) (by wtm_at "zhole") (by rw [hy1]; exact Nat.lt_trans hi (by decide)) ?_
        intro s S
        refine ⟨_, _, _, ⟨by rw [List.length_append, hy1]; rfl, fun k hk => ?_, rfl⟩, S⟩
        by_cases e : k < i
        · obtain ⟨u, h1, h2⟩ := hy2 k e
          exact ⟨u, by rw [List.getElem?_append_left (by rw [hy1]; exact e)]; exact h1, h2⟩
        · obtain rfl : k = i := Nat.le_antisymm (Nat.le_of_lt_succ hk) (Nat.not_lt.mp e)
          exact ⟨v, by rw [List.getElem?_append_right (Nat.le_of_eq hy1), hy1, Nat.sub_self]; rfl, hv⟩
      · rintro ys lx lo s ⟨hy1, hy2, rfl⟩ S
        refine ⟨rfl, _, _, S, fun s'' S'' => ?_⟩
        (repeat wtm_at "z")
        exact h D B3 its prs cds kvs ys _ (hB.trans (hB2.trans hB3)) hR h1 hcd hCo hy1 hy2 (S''.pick2 (lc := [(D, _)]) (by wtm_at "zpick") (by wtm_at "zsl"))
/-! text Ls -/
noncomputable def dot (a b : List Int) : Int := (List.zipWith (· * ·) a b).sum
noncomputable def shapes : List (List Int) := [[1, 2, 3, 4, 4], [1, 3, 3, 3, 3], [2, 2, 2, 3, 3]]
theorem ints_get : ∀ {vs : List Value} {ns : List Int} {i : Nat} {v : Value}, IntsAre vs ns → vs[i]? = some v → ∃ n t, ns[i]? = some n ∧ v = .int n t
  | _, _, _, _, .nil, e => by simp at e
  | _, _, 0, _, .cons n t _, e => by simp at e; exact ⟨n, t, rfl, e.symm⟩
  | _, _, i + 1, _, .cons n t h, e => by
    obtain ⟨n', t', h1, h2⟩ := ints_get (i := i) h (by simpa using e)
    exact ⟨n', t', by simpa using h1, h2⟩
theorem ints_app : ∀ {vs us : List Value} {ns ms : List Int}, IntsAre vs ns → IntsAre us ms → IntsAre (vs ++ us) (ns ++ ms)
  | _, _, _, _, .nil, b => b
  | _, _, _, _, .cons n t h, b => .cons n t (ints_app h b)
theorem mulOk {x y : Int} (h0 : 0 ≤ y) (h1 : y < 1000) : IntMulOk x y := by
  exact IntMulOk.of_right (intBits_le_iff.mpr (by lia))
set_option pp.deepTerms false in
set_option maxHeartbeats 8000000 in
theorem least_spec {w : World} {A : Around} {k : Nat} {B : Heap} {os : OsState} {s : Shared} {a : Addr} {vs : List Value} {ws srt : List Int} {l : Led} {Q E : Value → Shared → Prop}
    (C : Cx A (k + 4)) (kb : KB w B) (ha : At B a (IsL vs)) (hI : IntsAre vs ws) (hlen : ws.length = 5) (hp : srt.Perm ws) (hs : srt.Pairwise (· ≤ ·)) (S : St B os s l)
    (h : ∀ M t s', M ∈ shapes.map (dot srt.reverse) → (∀ c ∈ shapes.map (dot srt.reverse), M ≤ c) → St B os s' l → Q (.int M t) s') :
    wpAny (model PRG w) A (call (.ref 133) [.ref a]) Q E s := by
  have hvl : vs.length = 5 := by rw [hI.length, hlen]
  refine call_fn [S_ "weights", S_ "costs", S_ "shape"] [(S_ "sum", .builtin "sum"), (S_ "zip", .type "zip"), (S_ "sorted", .builtin "sorted"), (S_ "min", .builtin "min")] [(S_ "weights", .ref a)] C kb S (ho := by rfl) (by kernel_rfl!) (by rfl) (BindsTo.of_eq rfl) (by kernel_rfl!) (by kernel_rfl!) (by kernel_rfl!) (by kernel_rfl!) (by kernel_rfl!) (by rfl) (by rfl) (by rfl) (by rfl) (by rfl) ?_
  intro A' env L s₁ C' O G S'
  clear S
  (repeat wtm_at "z")
  refine new_list (by assumption) (by simp) ?_
  intro CS s S
  (repeat wtm_at "z")
  refine new_list (by assumption) (by simp) ?_
  intro X0 s S
  (repeat wtm_at "z")
  refine new_list (by assumption) (by simp) ?_
  intro X1 s S
  (repeat wtm_at "z")
  refine new_list (by assumption) (by simp) ?_
  intro X2 s S
  (repeat wtm_at "z")
  refine new_list (by assumption) (by simp) ?_
  intro XX s S
  refine it_list (by assumption) (by wtm_at "zrd") ?_
  intro I s S
  rename St B os _ _ => S
  obtain ⟨B2, hB2, hX, -, S2⟩ := S.absorb (lc := [(X0, _), (X1, _), (X2, _), (XX, _)]) (by wtm_at "zpick")
  clear S
  have kb2 := kb.sub hB2
  have ha2 := ha.sub hB2
  obtain ⟨xv, hXX, hxv, hxv3⟩ : ∃ xv, At B2 XX (IsL xv) ∧ (∀ i, i < 3 → ∃ X us sh, xv[i]? = some (.ref X) ∧ At B2 X (IsL us) ∧ IntsAre us sh ∧ shapes[i]? = some sh) ∧ xv[3]? = none := by
    refine ⟨_, hX (XX, _) (by wtm_at "zmem"), fun i hi => ?_, rfl⟩
    rcases (by lia : i = 0 ∨ i = 1 ∨ i = 2) with rfl | rfl | rfl
    · exact ⟨X0, _, _, rfl, hX (X0, _) (by wtm_at "zmem"), .cons 1 _ (.cons 2 _ (.cons 3 _ (.cons 4 _ (.cons 4 _ .nil)))), rfl⟩
    · exact ⟨X1, _, _, rfl, hX (X1, _) (by wtm_at "zmem"), .cons 1 _ (.cons 3 _ (.cons 3 _ (.cons 3 _ (.cons 3 _ .nil)))), rfl⟩
    · exact ⟨X2, _, _, rfl, hX (X2, _) (by wtm_at "zmem"), .cons 2 _ (.cons 2 _ (.cons 2 _ (.cons 3 _ (.cons 3 _ .nil)))), rfl⟩
  clear hX
  refine f_for (fun i s => ∃ cvs, IntsAre cvs ((shapes.map (dot srt.reverse)).take i) ∧ St B2 os s ((L, NsA [(S_ "costs", .ref CS), (S_ "weights", .ref a)]) :: (CS, IsL cvs) :: (I, IsLI XX i) :: l)) 3
    ⟨[], .nil, S2.pick2 (lc := [(L, _), (CS, _), (I, _)]) (by wtm_at "zpick") (by wtm_at "zsl")⟩ ?_ ?_
  · rintro i s hi ⟨cvs, hc, S⟩
    obtain ⟨X, us, sh, hx1, hXs, hus, hsh⟩ := hxv i hi
    refine nx_li (by assumption) (by wtm_at "zhole") (hXX.sub (St.keep (by assumption))) hx1 ?_
    intro s S
    (repeat wtm_at "z")
    refine m_append (by wtm_at "zrd") ?_
    (repeat wtm_at "z")
    refine e_comp O (cl := []) (by rfl) (by kernel_rfl!) (by rfl) (fun _ => by with_unfolding_all rfl) ?_
    (repeat wtm_at "z")
    refine c_sorted (by assumption) (ha2.sub (St.keep (by assumption))) hI (by lia) ?_
    intro Ds vs' ns' s hI' hp' hs' S
    obtain rfl : ns' = srt := (hp'.trans hp.symm).eq_of_pairwise (fun a b _ _ h1 h2 => Int.le_antisymm h1 h2) hs' hs
    have hn5 : ns'.length = 5 := by rw [hp'.length_eq, hlen]
    have hv5 : vs'.length = 5 := by rw [hI'.length, hn5]
    (repeat wtm_at "z")
    refine sl_tail (by assumption) (by wtm_at "zrd") .none .none (.int _ _) (by decide) (by lia) ?_
    intro Dr s S
    rw [show slicePick vs'.toArray none none (some (-1)) = _ from krv_pick _] at S
    (repeat wtm_at "z")
    rename St B2 os _ _ => S
    obtain ⟨B3, hB3, hDr, -, S3⟩ := S.absorb (lc := [(Dr, _)]) (by wtm_at "zpick")
    have hDr := hDr _ List.mem_cons_self
    clear S
    have hIr : IntsAre vs'.reverse ns'.reverse := hI'.reverse
    refine c_zip (by assumption) (hDr.sub (St.keep (by assumption))) ((hXs.sub hB3).sub (St.keep (by assumption))) ?_
    intro z TI TO i1 i2 s S
    refine it_zip (by assumption) (by wtm_at "zmem") ?_
    refine ⟨_, _, _, S, fun s' Q E hk hq => self_zip (S.rd List.mem_cons_self) hk hq, fun D C s3 hk S4 => ?_⟩
    have O' := O.comp (C := C) (lc' := [S_ "weight", S_ "parts"]) (cl := []) (scope := { kind := ScopeKind.function, names := [(Str.ofString ".0", NameKind.local), (Str.ofString "weight", NameKind.local), (Str.ofString "parts", NameKind.local)], isGenerator := false, isCoroutine := false }) rfl (by kernel_rfl!) (by rfl)
    clear S S3
    refine loop_zip (fun i ys lx => IntsAre ys ((List.zipWith (· * ·) ns'.reverse sh).take i) ∧ lx = _) step1 mono1 C'.handled O' (by wtm_at "zmem") (by wtm_at "zmem") (by decide) hDr (hXs.sub hB3) S4 ⟨.nil, rfl⟩ ?_ ?_
    · rintro j ys lx v u B' s hv hu hB' ⟨hy, rfl⟩ S
      refine Body0.one ?_
      obtain ⟨n1, t1, e1, rfl⟩ := ints_get hIr hv
      obtain ⟨n2, t2, e2, rfl⟩ := ints_get hus hu
      have hn2 : 0 ≤ n2 ∧ n2 < 1000 := by
        have hm : n2 ∈ sh := List.mem_of_getElem? e2
        have hm2 : sh ∈ shapes := List.mem_of_getElem? hsh
        simp only [shapes, List.mem_cons, List.not_mem_nil, or_false] at hm2
        rcases hm2 with rfl | rfl | rfl <;> simp at hm <;> lia
      (repeat wtm_at "z")
      refine b_mul (by assumption) (mulOk hn2.1 hn2.2) ?_
      intro t s S
      refine l_append (by assumption) (by wtm_at "zhole") (by rw [hy.length]; simp; lia) ?_
      intro s S
      refine ⟨_, _, _, ⟨?_, rfl⟩, S⟩
      rw [List.take_add_one]
      refine ints_app hy ?_
      rw [List.getElem?_zipWith, e1, e2]
      exact .cons _ _ .nil
    · rintro ys lx lo s ⟨hy, rfl⟩ S
      refine ⟨rfl, _, _, S, fun s'' S'' => ?_⟩
      clear S
      (repeat wtm_at "z")
      refine c_sum C'.handled (by assumption) (by wtm_at "zrd") hy ?_
      intro t s S
      (repeat wtm_at "z")
      refine l_append (by assumption) (by wtm_at "zhole") (by rw [hc.length]; simp; lia) ?_
      intro s S
      (repeat wtm_at "z")
      rename St B3 os _ _ => S
      refine f_next ⟨_, ?_, ((S.base hB3).pick2 (lc := [(L, _), (CS, _), (I, _)]) (by wtm_at "zpick") (by wtm_at "zsl")).names [(S_ "costs", .ref CS), (S_ "weights", .ref a)] (by wtm_at "zsub") (by kernel_rfl!)⟩
      rw [List.take_add_one]
      refine ints_app hc ?_
      rw [List.getElem?_map, hsh]
      have e : (List.zipWith (· * ·) ns'.reverse sh).take (min vs'.reverse.length us.length) = List.zipWith (· * ·) ns'.reverse sh := by
        refine List.take_of_length_le ?_
        rw [List.length_zipWith, hIr.length, hus.length]
        exact Nat.le_refl _
      rw [e]
      exact .cons _ _ .nil
  · rintro s ⟨cvs, hc, S⟩
    refine nx_liE C'.handled (by assumption) (by wtm_at "ztake") (hXX.sub (St.keep (by assumption))) hxv3 ?_
    intro s S
    refine ⟨rfl, ?_⟩
    (repeat wtm_at "z")
    refine c_min C'.handled (by assumption) (by wtm_at "zrd") hc (by rw [hc.length]; simp [shapes]) ?_
    intro M t s hm1 hm2 S
    (repeat wtm_at "z")
    rename St B2 os _ _ => S
    exact h M t _ hm1 hm2 ((S.base hB2).sub (by wtm_at "zsl"))
/-! text Rr -/
theorem enc_len : ∀ r : List Bool, (enc r).length ≤ 3 * r.length
  | [] => by simp [enc]
  | b :: r => by
    have := enc_len r
    show (enc1 b ++ enc r).length ≤ _
    cases b <;> simp [enc1] <;> lia
theorem joinB_len (r : List Bool) : (joinB r).length ≤ 3 * r.length := by
  cases r with
  | nil => exact Nat.zero_le _
  | cons b r =>
    have h := congrArg List.length (joinB_cps (b :: r) (by simp))
    have h2 := enc_len (b :: r)
    rw [← h] at h2
    simp only [List.length_append, Array.length_toList, List.length_cons, List.length_nil] at h2 ⊢
    show (joinB (b :: r)).cps.size ≤ _
    lia
theorem parts_len : ∀ r : List Bool, ((r.map part).map (·.length)).sum ≤ 2 * r.length
  | [] => by simp
  | b :: r => by
    have := parts_len r
    have hb : (part b).length ≤ 2 := by cases b <;> decide +kernel
    simp only [List.map_cons, List.sum_cons, List.length_cons]; lia
noncomputable def bitsOf (code : Nat → List Bool) (sg : List Nat) : List Bool := sg.flatMap code
theorem bits_len {code : Nat → List Bool} (h8 : ∀ i, (code i).length ≤ 8) : ∀ sg : List Nat, (bitsOf code sg).length ≤ 8 * sg.length
  | [] => by simp [bitsOf]
  | k :: r => by
    have := bits_len h8 r
    have := h8 k
    show (code k ++ bitsOf code r).length ≤ _
    simp; lia
noncomputable def dsl (w : World) (ds : List (Rd × List (Str × Value))) : Led := ds.map fun d => (d.1.ig, DictG (strKind PRG w) d.2)
noncomputable def KvOk (n m : Nat) (kvs : List (Str × Value)) : Prop := (∀ p ∈ kvs, p.1 = K0 ∨ ∃ b : List Bool, n ≤ b.length ∧ b ≠ [] ∧ p.1 = joinB b) ∧ kvs.length ≤ m
theorem KvOk.none {n m : Nat} {kvs : List (Str × Value)} (h : KvOk n m kvs) {r : List Bool} (hr : r.length < n) (h0 : r ≠ []) : valueAt kvs (joinB r) = none := by
  unfold valueAt
  rw [Option.map_eq_none_iff, List.find?_eq_none]
  intro p hp
  rw [decide_eq_true_eq]
  intro e
  rcases h.1 p hp with q | ⟨b, hb, hb0, q⟩
  · exact joinB_ne_K0 h0 (e.symm.trans q)
  · have := joinB_inj hb0 h0 (q.symm.trans e)
    rw [this] at hb; lia
theorem KvOk.snoc {n m n' : Nat} {kvs : List (Str × Value)} (h : KvOk n' m kvs) {r : List Bool} {v : Value} (hn : n ≤ n') (hr : n ≤ r.length) (h0 : r ≠ []) : KvOk n (m + 1) (kvs ++ [(joinB r, v)]) :=
  ⟨fun p hp => by
    rcases List.mem_append.mp hp with q | q
    · rcases h.1 p q with e | ⟨b, hb, x⟩
      · exact .inl e
      · exact .inr ⟨b, by lia, x⟩
    · rw [List.mem_singleton.mp q]; exact .inr ⟨r, hr, h0, rfl⟩, by have := h.2; simp; lia⟩
inductive TellAt (B : Heap) : List Value → List Nat → Prop
  | nil : TellAt B [] []
  | cons {hv : Addr} {k : Nat} {t : Tok} {tvs : List Value} {sg : List Nat} : At B hv (IsL [.int k t]) → TellAt B tvs sg → TellAt B (.ref hv :: tvs) (k :: sg)
theorem TellAt.sub {B B' : Heap} {tvs : List Value} {sg : List Nat} (x : TellAt B tvs sg) (k : Sub B B') : TellAt B' tvs sg := by
  induction x with
  | nil => exact .nil
  | cons h _ ih => exact .cons (h.sub k) ih
theorem TellAt.snoc {B : Heap} {tvs : List Value} {sg : List Nat} {hv : Addr} {k : Nat} {t : Tok} (x : TellAt B tvs sg) (h : At B hv (IsL [.int k t])) : TellAt B (tvs ++ [.ref hv]) (sg ++ [k]) := by
  induction x with
  | nil => exact .cons h .nil
  | cons h' _ ih => exact .cons h' ih
theorem TellAt.len {B : Heap} {tvs : List Value} {sg : List Nat} (x : TellAt B tvs sg) : tvs.length = sg.length := by
  induction x with
  | nil => rfl
  | cons _ _ ih => simp [ih]
/-- the readers' dicts during a round -/
noncomputable def DsTurn (N M i : Nat) (ds : List (Rd × List (Str × Value))) : Prop := ∀ j d, ds[j]? = some d → KvOk (if j < i then N else N + 1) (if j < i then M + 1 else M) d.2

theorem split_get {α : Type} : ∀ {l : List α} {i : Nat} {d : α}, l[i]? = some d → ∃ pre post, l = pre ++ d :: post ∧ pre.length = i
  | [], _, _, h => by simp at h
  | x :: r, 0, d, h => by simp at h; exact ⟨[], r, by rw [h]; rfl, rfl⟩
  | x :: r, i + 1, d, h => by
    obtain ⟨pre, post, e, hl⟩ := split_get (l := r) (i := i) (by simpa using h)
    exact ⟨x :: pre, post, by rw [e]; rfl, by simp [hl]⟩
theorem DsTurn.step {N M i : Nat} {pre post : List (Rd × List (Str × Value))} {d : Rd × List (Str × Value)} {kv : List (Str × Value)} (h : DsTurn N M i (pre ++ d :: post)) (hp : pre.length = i) (hk : KvOk N (M + 1) kv) : DsTurn N M (i + 1) (pre ++ (d.1, kv) :: post) := by
  intro j d' hj
  by_cases h1 : j < i
  · rw [List.getElem?_append_left (by lia)] at hj
    have := h j d' (by rw [List.getElem?_append_left (by lia)]; exact hj)
    rw [if_pos h1, if_pos h1] at this
    rw [if_pos (by lia), if_pos (by lia)]; exact this
  · rw [List.getElem?_append_right (by lia)] at hj
    by_cases h2 : j = i
    · subst h2
      rw [hp, Nat.sub_self] at hj
      simp only [List.getElem?_cons_zero, Option.some.injEq] at hj
      subst hj
      rw [if_pos (by lia), if_pos (by lia)]; exact hk
    · obtain ⟨m, hm⟩ : ∃ m, j - pre.length = m + 1 := ⟨j - pre.length - 1, by lia⟩
      rw [hm, List.getElem?_cons_succ] at hj
      have := h j d' (by rw [List.getElem?_append_right (by lia), hm, List.getElem?_cons_succ]; exact hj)
      rw [if_neg (by lia), if_neg (by lia)] at this
      rw [if_neg (by lia), if_neg (by lia)]; exact this
theorem dict_front {w : World} {pre post : List (Rd × List (Str × Value))} {d : Rd × List (Str × Value)} (X l : Led) : (X ++ (dsl w (pre ++ d :: post) ++ l)).Perm ((d.1.ig, DictG (strKind PRG w) d.2) :: (X ++ (dsl w pre ++ dsl w post ++ l))) := by
  have e : X ++ (dsl w (pre ++ d :: post) ++ l) = (X ++ dsl w pre) ++ (d.1.ig, DictG (strKind PRG w) d.2) :: (dsl w post ++ l) := by simp [dsl]
  have e2 : X ++ (dsl w pre ++ dsl w post ++ l) = (X ++ dsl w pre) ++ (dsl w post ++ l) := by simp
  rw [e, e2]
  exact List.perm_middle
theorem frame_dict {α : Type} {M : Model} {A : Around} {T : Sem α} {Q : α → Shared → Prop} {E : Value → Shared → Prop} {w : World} {B : Heap} {os : OsState} {s : Shared} {pre post : List (Rd × List (Str × Value))} {d : Rd × List (Str × Value)} (X l : Led) (S : St B os s (X ++ (dsl w (pre ++ d :: post) ++ l)))
    (spec : ∀ B', Sub B B' → St B' os s [(d.1.ig, DictG (strKind PRG w) d.2)] → wpAny M A T (fun v s' => ∃ kv, St B' os s' [(d.1.ig, DictG (strKind PRG w) kv)] ∧ (St B os s' (X ++ (dsl w (pre ++ (d.1, kv) :: post) ++ l)) → Q v s')) E s) : wpAny M A T Q E s :=
  frame (S.perm (dict_front X l)) (Pick.cons Take.here Pick.nil) fun B' hB _ S1 => wpAny_mono (spec B' hB S1) (fun _ _ ⟨kv, S2, h⟩ => ⟨_, S2, fun S3 => h (S3.perm (dict_front (d := (d.1, kv)) X l).symm)⟩) fun _ _ e => e
theorem hit_one {c r : List Bool} (hc : c ≠ []) (hr : r ≠ []) : hitB [joinB c] (joinB r) = decide (c <+: r) := by
  have := hit_iff hc hr
  unfold hitB
  rw [List.any_cons, List.any_nil, Bool.or_false]
  cases h : (decide (joinB r = joinB c) || Txt.startswith (joinB r) (joinB c ++ Str.ofString ".")) with
  | true => rw [h] at this; simp [this.mp rfl]
  | false => rw [h] at this; simp at this; simp [this]
theorem c_joinB {prog : Program} {w : World} {A : Around} {E : Value → Shared → Prop} {s : Shared} {B : Heap} {os : OsState} {l : Led} {a : Addr} {vs : List Value} {t : Tok} {bits : List Bool} {Q : Value → Shared → Prop} (S : St B os s l) (y : At s.heap a (IsL vs)) (hI : StrsOf vs (bits.map part)) (hw : bits.length ≤ 10000) (h : ∀ t s', St B os s' l → Q (.str (joinB bits) t) s') :
    wpAny (model prog w) A (call (.builtin "str.join") [.str (Str.ofString ".") t, .ref a]) Q E s :=
  c_join S y hI (by decide +kernel) (by have := parts_len bits; simp only [List.length_map] at *; lia) h
theorem notin_of {lo : List (Str × Value)} {x : Str} (p : (lo.all fun q => !(q.1 == x)) = true) : x ∉ lo.map (·.1) := fun hm => by
  obtain ⟨q, hq, e⟩ := List.mem_map.mp hm
  have := List.all_eq_true.mp p q hq
  simp at this; exact this e
theorem StrsOf.drop : ∀ {vs : List Value} {xs : List Str} (n : Nat), StrsOf vs xs → StrsOf (vs.drop n) (xs.drop n)
  | _, _, 0, h => h
  | _, _, n + 1, .nil => .nil
  | _, _, n + 1, .cons h => h.drop n
theorem KvOk.mono {n m n' m' : Nat} {kvs : List (Str × Value)} (h : KvOk n m kvs) (hn : n' ≤ n) (hm : m ≤ m') : KvOk n' m' kvs :=
  ⟨fun p hp => (h.1 p hp).imp id fun ⟨b, hb, x⟩ => ⟨b, by lia, x⟩, by have := h.2; lia⟩
theorem filt_succ (p : Nat → Bool) (i : Nat) : (List.range (i + 1)).filter p = (List.range i).filter p ++ (if p i then [i] else []) := by
  rw [List.range_succ, List.filter_append]
  cases h : p i <;> simp [h]
theorem hits_one {code : Nat → List Bool} (hpf : ∀ i j, i < 5 → j < 5 → code i <+: code j → i = j) {k : Nat} (hk : k < 5) (r : List Bool) :
    (List.range 5).filter (fun j => decide (code j <+: code k ++ r)) = [k] := by
  have key : ∀ j, j < 5 → (decide (code j <+: code k ++ r)) = decide (j = k) := by
    intro j hj
    by_cases e : j = k
    · subst e; simp
    · simp only [e, decide_false, decide_eq_false_iff_not]
      intro h
      rcases List.prefix_or_prefix_of_prefix h (List.prefix_append (code k) r) with q | q
      · exact e (hpf _ _ hj hk q)
      · exact e (hpf _ _ hk hj q).symm
  rw [List.filter_congr (q := fun j => decide (j = k)) (fun j hj => key j (List.mem_range.mp hj))]
  rcases (by lia : k = 0 ∨ k = 1 ∨ k = 2 ∨ k = 3 ∨ k = 4) with rfl | rfl | rfl | rfl | rfl <;> rfl
set_option pp.deepTerms false in
set_option maxHeartbeats 8000000 in
theorem read_spec {w : World} {A : Around} {k : Nat} {B : Heap} {os : OsState} {s : Shared} {ra ca re : Addr} {rds : List Rd} {cvs us : List Value} {code : Nat → List Bool} {sg : List Nat} {ds : List (Rd × List (Str × Value))} {l : Led} {Q E : Value → Shared → Prop}
    (C : Cx A (k + 4)) (kb : KB w B) (hra : At B ra (IsL (rds.map fun r => .ref r.x))) (hrl : rds.length = 5) (hrd : ∀ i r, rds[i]? = some r → RdIn w B r [joinB (code i)])
    (hca : At B ca (IsL cvs)) (hcv : ∀ i, i < 5 → ∃ v, cvs[i]? = some v ∧ CodeAt B v (code i)) (h0 : ∀ i, code i ≠ []) (h8 : ∀ i, (code i).length ≤ 8) (hpf : ∀ i j, i < 5 → j < 5 → code i <+: code j → i = j)
    (hre : At B re (IsL us)) (hus : StrsOf us ((bitsOf code sg).map part)) (hsg : ∀ k ∈ sg, k < 5) (hsl : sg.length < 100) (hds : ds.map (·.1) = rds) (hdk : ∀ d ∈ ds, KvOk ((bitsOf code sg).length + 1) 1 d.2)
    (S : St B os s (dsl w ds ++ l))
    (h : ∀ T B' tvs s', Sub B B' → TellAt B' tvs sg → St B' os s' ((T, IsL tvs) :: l) → Q (.ref T) s') :
    wpAny (model PRG w) A (call (.ref 128) [.ref ra, .ref ca, .ref re]) Q E s := by
  refine call_fn1 [S_ "readers", S_ "codes", S_ "told", S_ "hits"] [(S_ "len", .builtin "len"), (S_ "enumerate", .type "enumerate")] [(S_ "readers", .ref ra), (S_ "codes", .ref ca), (S_ "rest", .ref re)] [(S_ "readers", .ref ra), (S_ "codes", .ref ca)] (S_ "rest") (some (.ref re)) C kb S
    (ho := by rfl) (by kernel_rfl!) (by rfl) rfl rfl (fun _ => rfl) (by kernel_rfl!) (by kernel_rfl!) (by kernel_rfl!) (List.forall_mem_cons.mpr ⟨rfl, List.forall_mem_singleton.mpr rfl⟩) rfl (by kernel_rfl!) (by kernel_rfl!) (by kernel_rfl!) (by rfl) (by rfl) (by rfl) (by rfl) (by rfl) ?_
  intro A' env L c s₁ C' O hkc G S'
  clear S
  (repeat wtm_at "z")
  refine new_list (by assumption) (by simp) ?_
  intro T s S
  (repeat wtm_at "z")
  rename St B os _ _ => S
  refine w_while (fun n s => ∃ B' done sg' re' us' ds' tvs, Sub B B' ∧ sg = done ++ sg' ∧ n = sg'.length ∧ At B' re' (IsL us') ∧ StrsOf us' ((bitsOf code sg').map part) ∧ TellAt B' tvs done ∧ ds'.map (·.1) = rds ∧ DsTurn (bitsOf code sg').length (done.length + 1) 0 ds' ∧
      St B' os s ((L, NsA [(S_ "told", .ref T), (S_ "readers", .ref ra), (S_ "codes", .ref ca)]) :: (c, CellA (some (.ref re'))) :: (T, IsL tvs) :: (dsl w ds' ++ l))) sg.length
    ⟨B, [], sg, re, us, ds, [], Sub.rfl, rfl, rfl, hre, hus, .nil, hds, (fun j d hj => hdk d (List.mem_of_getElem? hj)), S.order (lc := [(L, _), (c, _), (T, _)]) (by wtm_at "zpick")⟩ ?_
  rintro n s ⟨B1, dn, sg', re', us', ds', tvs, hB, hsplit, hn, hre', hus', hT, hds', hdt, S⟩
  have kb1 := kb.sub hB
  (repeat wtm_at "z")
  refine new_list (by assumption) (by simp) ?_
  intro Em s S
  (repeat wtm_at "z")
  refine ne_nil (by have := C'.units; lia) (hre'.sub (St.keep (by assumption))) hus' (fun x hx => by
    obtain ⟨b, _, rfl⟩ := List.mem_map.mp hx
    cases b <;> decide +kernel) (by wtm_at "zrd") ?_
  (repeat wtm_at "z")
  refine w_case (fun hc => ?_) (fun hc => ?_)
  · obtain ⟨kk, sg'', rfl⟩ : ∃ kk sg'', sg' = kk :: sg'' := by
      cases sg' with
      | nil => simp [bitsOf] at hc
      | cons kk sg'' => exact ⟨kk, sg'', rfl⟩
    have hbits : bitsOf code (kk :: sg'') = code kk ++ bitsOf code sg'' := rfl
    have hbl2 : (bitsOf code (kk :: sg'')).length = (code kk).length + (bitsOf code sg'').length := by rw [hbits, List.length_append]
    have hkk : kk < 5 := hsg kk (by rw [hsplit]; simp)
    have hb0 : bitsOf code (kk :: sg'') ≠ [] := by rw [hbits]; simp [h0 kk]
    have hbl := bits_len h8 (kk :: sg'')
    have hslen : dn.length + (kk :: sg'').length < 100 := by rw [hsplit] at hsl; simpa using hsl
    obtain ⟨dn1, hdn1⟩ : ∃ m, m = (kk :: sg'').length := ⟨_, rfl⟩
    refine e_seq ?_
    refine a_comp O (by wtm_at "zmem") (cl := [(S_ "rest", c)]) (by rfl) (by kernel_rfl!) (by rfl) (fun _ => by with_unfolding_all rfl) (sw_true O (by wtm_at "zmem") (by rfl) (by kernel_rfl!)) ?_
    (repeat wtm_at "z")
    refine c_enum (by assumption) ((hra.sub hB).sub (St.keep (by assumption))) ?_
    intro e it s S
    refine it_enum (by assumption) (by wtm_at "zmem") ?_
    refine ⟨_, _, _, S, fun s' Q E hk hq => self_enum (S.rd List.mem_cons_self) hk hq, fun D Cf s3 hk S4 => ?_⟩
    have O' := O.comp (C := Cf) (lc' := [S_ "k", S_ "reader"]) (cl := [(S_ "rest", c)]) (scope := { kind := ScopeKind.function, names := [(Str.ofString ".0", NameKind.local), (Str.ofString "k", NameKind.local), (Str.ofString "reader", NameKind.local), (Str.ofString "rest", NameKind.free)], isGenerator := false, isCoroutine := false }) rfl (by kernel_rfl!) (by simp [freeOk]; decide)
    clear S
    refine loop_enum (fun i ys lx => IntsAre ys (((List.range i).filter (fun j => decide (code j <+: bitsOf code (kk :: sg'')))).map Int.ofNat) ∧ ∃ dt, dt.map (·.1) = rds ∧ DsTurn (bitsOf code (kk :: sg'')).length (dn.length + 1) i dt ∧
        lx = (Em, IsL []) :: (L, NsA [(S_ "told", .ref T), (S_ "readers", .ref ra), (S_ "codes", .ref ca)]) :: (c, CellA (some (.ref re'))) :: (T, IsL tvs) :: (dsl w dt ++ l))
      step1 mono1 C'.handled O' (by wtm_at "zmem") (by wtm_at "zmem") (by decide) (hra.sub hB) S4 ⟨.nil, ds', hds', hdt, rfl⟩ ?_ ?_
    · rintro i ys lx v t B' s hv hB' ⟨hy, dt, hdt1, hdt2, rfl⟩ S
      have hi5 : i < 5 := by have := (List.getElem?_eq_some_iff.mp hv).1; simpa [hrl] using this
      obtain ⟨r, hr, rfl⟩ : ∃ r, rds[i]? = some r ∧ v = .ref r.x := by
        rw [List.getElem?_map] at hv
        obtain ⟨r, hr, e⟩ := Option.map_eq_some_iff.mp hv
        exact ⟨r, hr, e.symm⟩
      obtain ⟨d, hd, rfl⟩ : ∃ d, dt[i]? = some d ∧ d.1 = r := by
        have hr' := hr
        rw [← hdt1, List.getElem?_map] at hr'
        obtain ⟨d, hd, e⟩ := Option.map_eq_some_iff.mp hr'
        exact ⟨d, hd, e⟩
      have R := ((hrd i d.1 hr).sub hB).sub hB'
      have kb' := kb1.sub hB'
      have hKv := hdt2 i d hd
      rw [if_neg (by lia), if_neg (by lia)] at hKv
      have hyl : ys.length ≤ 5 := by
        rw [hy.length, List.length_map]
        refine Nat.le_trans (List.length_filter_le _ _) ?_
        simp; lia
      obtain ⟨pre, post, rfl, hpl⟩ := split_get hd
      refine Body0.test ?_
      (repeat wtm_at "z")
      refine rm_names R kb' (by assumption) ?_
      (repeat wtm_at "z")
      refine c_joinB (by assumption) ((hre'.sub hB').sub (St.keep (by assumption))) hus' (by lia) ?_
      intro tj s S
      (repeat wtm_at "z")
      rename St B' os _ _ => S
      refine frame_dict [(Cf, _), (D, _), (Em, _), (L, _), (c, _), (T, _)] l S (fun B'' hB'' S2 => ?_)
      refine names_spec (k := k + 2) C' (kb'.sub hB'') (R.sub hB'') (by simp) (by simp) (fun x hx => by rw [List.mem_singleton.mp hx]; have := joinB_len (code i); have := h8 i; lia) (hKv.none (Nat.lt_succ_self _) hb0) (by have := hKv.2; lia) S2 (fun t t' s' S3 => ⟨_, S3, fun S5 => ?_⟩)
      clear S S2 S3
      have hkv' := hKv.snoc (n := (bitsOf code (kk :: sg'')).length) (r := bitsOf code (kk :: sg'')) (v := .int (if hitB [joinB (code i)] (joinB (bitsOf code (kk :: sg''))) = true then 1 else 0) t) (Nat.le_succ _) (Nat.le_refl _) hb0
      simp only [List.cons_append, List.nil_append] at S5
      by_cases hpre : code i <+: bitsOf code (kk :: sg'')
      · have hh : hitB [joinB (code i)] (joinB (bitsOf code (kk :: sg''))) = true := by rw [hit_one (h0 i) hb0]; simpa using hpre
        rw [hh] at hkv' S5 ⊢
        (repeat wtm_at "z")
        refine (if_pos rfl).mpr ?_
        (repeat wtm_at "z")
        refine l_append (by assumption) (by wtm_at "zhole") (by lia) ?_
        intro s S
        refine ⟨_, _, _, ⟨?_, _, ?_, hdt2.step hpl hkv', rfl⟩, S⟩
        · rw [filt_succ, if_pos (by simpa using hpre), List.map_append]
          exact ints_app hy (.cons _ _ .nil)
        · rw [← hdt1]; simp
      · have hh : hitB [joinB (code i)] (joinB (bitsOf code (kk :: sg''))) = false := by rw [hit_one (h0 i) hb0]; simpa using hpre
        rw [hh] at hkv' S5 ⊢
        (repeat wtm_at "z")
        refine (if_neg (by decide)).mpr ?_
        rename St B' os _ _ => S
        refine ⟨_, _, _, ⟨?_, _, ?_, hdt2.step hpl hkv', rfl⟩, S⟩
        · rw [filt_succ, if_neg (by simpa using hpre), List.append_nil]
          exact hy
        · rw [← hdt1]; simp
    · rintro ys lx lo s ⟨hy, dt, hdt1, hdt2, rfl⟩ S
      rw [List.length_map, hrl, hbits, hits_one hpf hkk] at hy
      obtain ⟨tk, rfl⟩ : ∃ tk, ys = [.int kk tk] := by
        cases hy with
        | cons n t h => cases h; exact ⟨t, rfl⟩
      refine ⟨rfl, _, _, S, _, _, _, by wtm_at "zhole", .inr ⟨notin_of (by kernel_rfl!), rfl⟩, fun s'' S'' => ?_⟩
      clear S
      obtain ⟨B2, hB2, hD, -, S2⟩ := S''.absorb (lc := [(D, _)]) (by wtm_at "zpick")
      have hD := hD _ List.mem_cons_self
      clear S''
      have kb2 := kb1.sub hB2
      (repeat wtm_at "z")
      refine m_append (by wtm_at "zrd") ?_
      (repeat wtm_at "z")
      refine l_append (by assumption) (by wtm_at "zhole") (by rw [hT.len]; lia) ?_
      intro s S
      (repeat wtm_at "z")
      refine e_if ?_
      (repeat wtm_at "z")
      refine len_lA (n := 1) (by assumption) (hD.sub (St.keep (by assumption))) rfl (by lia) ?_
      intro t s S
      (repeat wtm_at "z")
      refine i_false (by rfl) ?_
      (repeat wtm_at "z")
      obtain ⟨cv, hcvk, cA, uc, rfl, hcA, huc⟩ := hcv kk hkk
      have hBB := hB.trans hB2
      refine g_item (hD.sub (St.keep (by assumption))) (by lia) (by lia) (v := .int kk tk) rfl ?_
      refine g_item ((hca.sub hBB).sub (St.keep (by assumption))) (by lia) (by lia) (v := .ref cA) (by simpa using hcvk) ?_
      (repeat wtm_at "z")
      refine len_lA (n := (code kk).length) (by assumption) ((hcA.sub hBB).sub (St.keep (by assumption))) (by rw [huc.length, List.length_map]) (by have := h8 kk; lia) ?_
      intro t s S
      (repeat wtm_at "z")
      have hul : us'.length = (code kk).length + (bitsOf code sg'').length := by rw [hus'.length, List.length_map, hbits, List.length_append]
      refine sl_tail (by assumption) ((hre'.sub hB2).sub (St.keep (by assumption))) (.int _ _) .none .none (by decide) (by lia) ?_
      intro D2 s S
      rw [slicePick_from us'.toArray (code kk).length (by rw [List.size_toArray]; lia)] at S
      (repeat wtm_at "z")
      rename St B2 os _ _ => S
      obtain ⟨B3, hB3, hD2, -, S3⟩ := S.absorb (lc := [(D2, _)]) (by wtm_at "zpick")
      have hD2 := hD2 _ List.mem_cons_self
      clear S S2
      refine t_next (m := sg''.length) (by simp at hn; lia) ⟨B3, dn ++ [kk], sg'', D2, _, dt, _, hBB.trans hB3, by rw [hsplit]; simp, rfl, hD2, ?_, (hT.sub (hB2.trans hB3)).snoc (hD.sub hB3), hdt1, ?_,
        (S3.pick2 (lc := [(L, _), (c, _), (T, _)]) (by wtm_at "zpick") (by wtm_at "zsl")).names [(S_ "told", .ref T), (S_ "readers", .ref ra), (S_ "codes", .ref ca)] (by wtm_at "zsub") (by kernel_rfl!)⟩
      · have := hus'.drop (code kk).length
        have e : ((bitsOf code (kk :: sg'')).map part).drop (code kk).length = (bitsOf code sg'').map part := by
          rw [hbits, List.map_append]
          exact List.drop_left' (List.length_map _)
        rw [e] at this
        simpa using this
      · intro j d hj
        have hj5 : j < 5 := by
          have h1 := (List.getElem?_eq_some_iff.mp hj).1
          have h2 := congrArg List.length hdt1
          rw [List.length_map, hrl] at h2; lia
        have := hdt2 j d hj
        rw [if_pos (by rw [List.length_map, hrl]; exact hj5), if_pos (by rw [List.length_map, hrl]; exact hj5)] at this
        rw [if_neg (by lia), if_neg (by lia)]
        have h1 : 0 < (code kk).length := List.length_pos_iff.mpr (h0 kk)
        exact this.mono (by rw [hbits, List.length_append]; lia) (by simp)
  · obtain rfl : sg' = [] := by
      cases sg' with
      | nil => rfl
      | cons kk sg'' =>
        have : bitsOf code (kk :: sg'') = code kk ++ bitsOf code sg'' := rfl
        rw [this] at hc
        have h1 := h0 kk
        cases hk : code kk with
        | nil => exact (h1 hk).elim
        | cons _ _ => rw [hk] at hc; simp at hc
    rw [List.append_nil] at hsplit
    subst hsplit
    (repeat wtm_at "z")
    rename St B1 os _ _ => S
    exact h T B1 tvs _ hB hT (S.pick2 (lc := [(T, _)]) (by wtm_at "zpick") (by
      refine List.Sublist.cons _ (List.Sublist.cons _ (List.Sublist.cons _ ?_))
      exact List.sublist_append_right _ _))
/-! text La -/
noncomputable def bodyOf : Stmt → List Stmt
  | .FunctionDef _ _ b .. => b
  | _ => []
noncomputable abbrev lawB : List Stmt := bodyOf ((PySem.Challenge.pw_ny0114_01).main.body.getLastD default)
noncomputable def st0 : { b : Stmt // lawB[0]? = some b } := ⟨_, rfl⟩
noncomputable def st1 : { b : Stmt // lawB[1]? = some b } := ⟨_, rfl⟩
noncomputable def st2 : { b : Stmt // lawB[2]? = some b } := ⟨_, rfl⟩
noncomputable def st3 : { b : Stmt // lawB[3]? = some b } := ⟨_, rfl⟩
noncomputable def st4 : { b : Stmt // lawB[4]? = some b } := ⟨_, rfl⟩
noncomputable def st5 : { b : Stmt // lawB[5]? = some b } := ⟨_, rfl⟩
noncomputable def st6 : { b : Stmt // lawB[6]? = some b } := ⟨_, rfl⟩
noncomputable def st7 : { b : Stmt // lawB[7]? = some b } := ⟨_, rfl⟩
noncomputable def st8 : { b : Stmt // lawB[8]? = some b } := ⟨_, rfl⟩
noncomputable def st9 : { b : Stmt // lawB[9]? = some b } := ⟨_, rfl⟩
noncomputable def st10 : { b : Stmt // lawB[10]? = some b } := ⟨_, rfl⟩
noncomputable def st11 : { b : Stmt // lawB[11]? = some b } := ⟨_, rfl⟩
noncomputable def st12 : { b : Stmt // lawB[12]? = some b } := ⟨_, rfl⟩
noncomputable def st13 : { b : Stmt // lawB[13]? = some b } := ⟨_, rfl⟩
noncomputable def st14 : { b : Stmt // lawB[14]? = some b } := ⟨_, rfl⟩
noncomputable def st15 : { b : Stmt // lawB[15]? = some b } := ⟨_, rfl⟩
noncomputable def st16 : { b : Stmt // lawB[16]? = some b } := ⟨_, rfl⟩
noncomputable abbrev lawLc : List Str := [S_ "k", S_ "weights", S_ "heap", S_ "told", S_ "names", S_ "due", S_ "answer", S_ "rows", S_ "row", S_ "whole", S_ "signs", S_ "readers"]
noncomputable abbrev lawGl : List (Str × Value) := [(S_ "enumerate", .type "enumerate"), (S_ "heapify", .ref 42), (S_ "_law_codes", .ref 123), (S_ "sum", .builtin "sum"), (S_ "zip", .type "zip"), (S_ "_law_least", .ref 133), (S_ "range", .type "range"), (S_ "_Ignore", .ref 114), (S_ "type", .type "type"), (S_ "int", .type "int"), (S_ "_law_read", .ref 128)]
/-- law's own frame -/
structure LawF (w : World) (A : Around) (env : Env) (L cS cC : Addr) (B : Heap) : Prop where
  kb : KB w B
  cx : Cx A 12
  eo : EO env L lawLc [(S_ "codes", cC), (S_ "script", cS)]
  hc : env.kindOf (S_ "codes") = some .cell
  gl : Glos w env lawGl
theorem LawF.sub {w : World} {A : Around} {env : Env} {L cS cC : Addr} {B B' : Heap} (F : LawF w A env L cS cC B) (k : Sub B B') : LawF w A env L cS cC B' := ⟨F.kb.sub k, F.cx, F.eo, F.hc, F.gl⟩
/-- the weights -/
noncomputable def wgt (ns : List Int) (k : Nat) (b : Int) : Int := (if (pickNums ns (some (k : Int)) (some 10) (some 5)).sum < 0 then -(pickNums ns (some (k : Int)) (some 10) (some 5)).sum else (pickNums ns (some (k : Int)) (some 10) (some 5)).sum) + b
noncomputable def wgts (ns : List Int) : List Int := [wgt ns 0 3, wgt ns 1 7, wgt ns 2 7, wgt ns 3 7, wgt ns 4 5]
/-- a list, no more said of the object -/
noncomputable def LstW (vs : List Value) : Asn := fun o => o.cls = .type "list" ∧ ∃ n, o.data = .seq vs.toArray n
theorem At.listW {h : Heap} {a : Addr} {vs : List Value} (x : At h a (LstW vs)) : h.IsList a vs.toArray := let ⟨o, e, c, n, d⟩ := x; ⟨o, e, c, n, d⟩
theorem sl_tailW {prog : Program} {w : World} {A : Around} {E : Value → Shared → Prop} {s : Shared} {B : Heap} {os : OsState} {l : Led} {a : Addr} {vs : List Value} {Q : Value → Shared → Prop} {value slice : Expr} {vl vu vk : Value} {lo hi st : Option Int} {ops : List Value} (S : St B os s l) (x : At s.heap a (LstW vs)) (pl : IsPart vl lo) (pu : IsPart vu hi) (pk : IsPart vk st) (h0 : st ≠ some 0) (hz : vs.length < 2 ^ 22)
    (h : ∀ D s', St B os s' ((D, IsL (slicePick vs.toArray lo hi st).toList) :: l) → Q (.ref D) s') (hs : subscripted slice false (.ref a) (.ref s.heap.objs.size) = operate ops (getItem (.ref a) (.ref s.heap.objs.size)) := by with_unfolding_all rfl) :
    wpAny (model prog w) A (subscriptTail value slice (.ref a) (.ref s.heap.objs.size)) Q E { s with heap := s.heap.push { cls := .type "slice", data := .fields #[vl, vu, vk] } } := by
  have S1 : St B os ({ s with heap := s.heap.push { cls := .type "slice", data := .fields #[vl, vu, vk] } } : Shared) l := S.grow (Sub.push _)
  refine tail_any (Heap.IsList.typeIs (s := { s with heap := s.heap.push { cls := .type "slice", data := .fields #[vl, vu, vk] } }) (x.listW.push _)) list_getitem_lookup
    (wpAny_getItem_list_slice (x.listW.push _) (Heap.IsSliceOf.new ..) pl pu pk h0 ?_ (by rw [List.size_toArray, sizeLine_eq]; lia)) hs
  exact h _ _ (S1.push _ rfl ⟨0, by simp⟩)
section
variable {w : World} {A : Around} {env : Env} {L cS cC sa : Addr} {B : Heap} {os : OsState} {s : Shared} {svs : List Value} {ns : List Int} {l : Led} {lo : List (Str × Value)} {Q : Flow → Shared → Prop} {E : Value → Shared → Prop}
set_option maxHeartbeats 4000000 in
theorem law0 (F : LawF w A env L cS cC B) (hsa : At B sa (LstW svs)) (hI : IntsAre svs ns) (hlen : ns.length ≤ 63)
    (S : St B os s ((L, NsA []) :: (cS, CellA (some (.ref sa))) :: l))
    (h : ∀ D vs s', IntsAre vs (wgts ns) → St B os s' ((L, NsA [(S_ "weights", .ref D)]) :: (cS, CellA (some (.ref sa))) :: (D, IsL vs) :: l) → Q .next s') :
    wpAny (model PRG w) A (exec st0.1 env) Q E s := by
  have O := F.eo
  have kb := F.kb
  have G := F.gl
  have C := F.cx
  unfold st0
  refine a_comp O (by wtm_at "zmem") (cl := [(S_ "script", cS)]) (by rfl) (by kernel_rfl!) (by rfl) (fun _ => by with_unfolding_all rfl) (sw_true O (by wtm_at "zmem") (by rfl) (by kernel_rfl!)) ?_
  (repeat wtm_at "z")
  refine new_list (by assumption) (by simp) ?_
  intro X s S
  (repeat wtm_at "z")
  rename St B os _ _ => S
  obtain ⟨B2, hB2, hX, -, S2⟩ := S.absorb (lc := [(X, _)]) (by wtm_at "zpick")
  have hX := hX _ List.mem_cons_self
  clear S
  obtain ⟨xv, hX, hXv⟩ : ∃ xv, At B2 X (IsL xv) ∧ IntsAre xv [3, 7, 7, 7, 5] := ⟨_, hX, .cons _ _ (.cons _ _ (.cons _ _ (.cons _ _ (.cons _ _ .nil))))⟩
  refine c_enum (by assumption) (hX.sub (St.keep (by assumption))) ?_
  intro e it s S
  refine it_enum (by assumption) (by wtm_at "zmem") ?_
  refine ⟨_, _, _, S, fun s' Q E hk hq => self_enum (S.rd List.mem_cons_self) hk hq, fun D Cf s3 hk S4 => ?_⟩
  have O' := O.comp (C := Cf) (lc' := [S_ "k", S_ "weight"]) (cl := [(S_ "script", cS)]) (scope := { kind := ScopeKind.function, names := [(Str.ofString ".0", NameKind.local), (Str.ofString "k", NameKind.local), (Str.ofString "weight", NameKind.local), (Str.ofString "abs", NameKind.globalImplicit), (Str.ofString "sum", NameKind.globalImplicit), (Str.ofString "script", NameKind.free)], isGenerator := false, isCoroutine := false }) rfl (by kernel_rfl!) (by simp [freeOk]; decide)
  have G' : Glos w (compEnvC { kind := ScopeKind.function, names := [(Str.ofString ".0", NameKind.local), (Str.ofString "k", NameKind.local), (Str.ofString "weight", NameKind.local), (Str.ofString "abs", NameKind.globalImplicit), (Str.ofString "sum", NameKind.globalImplicit), (Str.ofString "script", NameKind.free)], isGenerator := false, isCoroutine := false } [(S_ "script", cS)] Cf env) [(S_ "abs", .builtin "abs"), (S_ "sum", .builtin "sum")] := glo_comp (by kernel_rfl!)
  clear S S2
  refine loop_enum (fun i ys lx => IntsAre ys ((wgts ns).take i) ∧ lx = _) step1 mono1 C.handled O' (by wtm_at "zmem") (by wtm_at "zmem") (by decide) hX S4 ⟨.nil, rfl⟩ ?_ ?_
  · rintro i ys lx v t B' s hv hB' ⟨hy, rfl⟩ S
    refine Body0.one ?_
    obtain ⟨b, tb, hb, rfl⟩ := ints_get hXv hv
    have hi5 : i < 5 := (List.getElem?_eq_some_iff.mp hb).1
    have kb' := kb.sub (hB2.trans hB')
    (repeat wtm_at "z")
    refine sl_tailW (by assumption) (((hsa.sub hB2).sub hB').sub (St.keep (by assumption))) (.int _ _) (.int _ _) (.int _ _) (by decide) (by rw [hI.length]; lia) ?_
    intro Ds s S
    (repeat wtm_at "z")
    refine c_sum C.handled (by assumption) (by wtm_at "zrd") (hI.pick _ _ _) ?_
    intro ts s S
    (repeat wtm_at "z")
    refine c_abs (by assumption) ?_
    intro ta s S
    (repeat wtm_at "z")
    refine l_append (by assumption) (by wtm_at "zhole") (by rw [hy.length]; simp; lia) ?_
    intro s S
    rename St B' os _ _ => S
    refine ⟨_, _, _, ⟨?_, rfl⟩, S.pick2 (lc := [(Cf, _), (D, _)]) (by wtm_at "zpick") (by wtm_at "zsl")⟩
    rw [List.take_add_one]
    refine ints_app hy ?_
    have e : (wgts ns)[i]? = some (wgt ns i b) := by
      rcases (by lia : i = 0 ∨ i = 1 ∨ i = 2 ∨ i = 3 ∨ i = 4) with rfl | rfl | rfl | rfl | rfl <;> (simp at hb; rw [← hb]; rfl)
    rw [e]
    exact .cons _ _ .nil
  · rintro ys lx lo s ⟨hy, rfl⟩ S
    rw [hXv.length] at hy
    refine ⟨rfl, _, _, S, _, _, _, by wtm_at "zhole", .inr ⟨notin_of (by kernel_rfl!), rfl⟩, fun s'' S'' => ?_⟩
    exact h D ys _ hy ((S''.base hB2).pick2 (lc := [(L, _), (cS, _), (D, _)]) (by wtm_at "zpick") (by wtm_at "zsl"))
end
/-! text Lb -/
theorem St.absorbP {B : Heap} {os : OsState} {s : Shared} {l : Led} (lc lf : Led) (S : St B os s l) (pk : l.Perm (lc ++ lf)) : ∃ B', Sub B B' ∧ (∀ p ∈ lc, At B' p.1 p.2) ∧ (∀ p ∈ lc, B.get? p.1 = none) ∧ St B' os s lf := by
  have S1 := S.perm pk
  have S2 : St B os s lf := S1.sub (List.sublist_append_right _ _)
  obtain ⟨h1, h2⟩ := S2.wall
  refine ⟨_, h1, fun p hp => ?_, fun p hp => S1.fresh p (List.mem_append_left _ hp), h2⟩
  obtain ⟨o, ho, hP⟩ := S1.has p (List.mem_append_left _ hp)
  refine ⟨o, hideAll_get _ ho fun q => ?_, hP⟩
  have nd := S1.nd
  rw [List.map_append, List.nodup_append] at nd
  exact nd.2.2 p.1 (List.mem_map_of_mem (f := (·.1)) hp) p.1 q rfl
noncomputable def itsL (its : List It) : Led := (its.map fun i => (i.a, i.asn)).reverse
theorem itsL_mem {its : List It} {i : It} (h : i ∈ its) : (i.a, i.asn) ∈ itsL its := by
  unfold itsL; rw [List.mem_reverse]; exact List.mem_map_of_mem (f := fun i : It => (i.a, i.asn)) h
section
variable {w : World} {A : Around} {env : Env} {L cS cC sa : Addr} {B : Heap} {os : OsState} {s : Shared} {svs : List Value} {ns : List Int} {l : Led} {Q : Flow → Shared → Prop} {E : Value → Shared → Prop}
set_option maxHeartbeats 4000000 in
theorem law1 {D : Addr} {vs : List Value} {ws : List Int} (F : LawF w A env L cS cC B) (hD : At B D (IsL vs)) (hI : IntsAre vs ws)
    (S : St B os s ((L, NsA [(S_ "weights", .ref D)]) :: l))
    (hw : ws.length = 5) (h : ∀ D2 (its : List It) B' s', Sub B B' → (∀ i ∈ its, i.In B') → its.map (·.w) = ws → its.map (·.k) = (List.range ws.length).map Int.ofNat → St B' os s' ((L, NsA [(S_ "heap", .ref D2), (S_ "weights", .ref D)]) :: (D2, IsL (its.map It.val)) :: l) → Q .next s') :
    wpAny (model PRG w) A (exec st1.1 env) Q E s := by
  have O := F.eo
  have kb := F.kb
  have G := F.gl
  have C := F.cx
  unfold st1
  refine a_comp O (by wtm_at "zmem") (cl := []) (by rfl) (by kernel_rfl!) (by rfl) (fun _ => by with_unfolding_all rfl) (sw_true O (by wtm_at "zmem") (by rfl) (by kernel_rfl!)) ?_
  (repeat wtm_at "z")
  refine c_enum (by assumption) (hD.sub (St.keep (by assumption))) ?_
  intro e it s S
  refine it_enum (by assumption) (by wtm_at "zmem") ?_
  refine ⟨_, _, _, S, fun s' Q E hk hq => self_enum (S.rd List.mem_cons_self) hk hq, fun D2 Cf s3 hk S4 => ?_⟩
  have O' := O.comp (C := Cf) (lc' := [S_ "k", S_ "weight"]) (cl := []) (scope := { kind := ScopeKind.function, names := [(Str.ofString ".0", NameKind.local), (Str.ofString "k", NameKind.local), (Str.ofString "weight", NameKind.local)], isGenerator := false, isCoroutine := false }) rfl (by kernel_rfl!) (by rfl)
  clear S
  refine loop_enum (fun i ys lx => ∃ its : List It, ys = its.map It.val ∧ its.map (·.w) = ws.take i ∧ its.map (·.k) = (List.range i).map Int.ofNat ∧ lx = itsL its ++ ((L, NsA [(S_ "weights", .ref D)]) :: l)) step1 mono1 C.handled O' (by wtm_at "zmem") (by wtm_at "zmem") (by decide) hD S4 ⟨[], rfl, rfl, rfl, rfl⟩ ?_ ?_
  · rintro i ys lx v t B' s hv hB' ⟨its, rfl, h1, h2, rfl⟩ S
    refine Body0.one ?_
    obtain ⟨b, tb, hb, rfl⟩ := ints_get hI hv
    (repeat wtm_at "z")
    refine new_tup (by assumption) (by simp) ?_
    intro T s S
    have hl : its.length = i := by have := congrArg List.length h2; simpa using this
    have hi2 : i < ws.length := (List.getElem?_eq_some_iff.mp hb).1
    refine l_append (by assumption) (by wtm_at "zhole") (by rw [List.length_map]; have := hI.length; lia) ?_
    intro s S
    rename St B' os _ _ => S
    refine ⟨_, _, _, ⟨its ++ [⟨T, b, i, tb, t⟩], (by rw [List.map_append]; try rfl), ?_, ?_, ?_⟩, S.order (lc := [(Cf, _), (D2, _), (T, _)]) (by wtm_at "zpick")⟩
    · rw [List.map_append, h1, List.take_add_one, hb]; rfl
    · rw [List.map_append, h2, List.range_succ, List.map_append]
      try rfl
    · unfold itsL; rw [List.map_append, List.reverse_append]; rfl
  · rintro ys lx lo s ⟨its, rfl, h1, h2, rfl⟩ S
    refine ⟨rfl, _, _, S, [(S_ "weights", .ref D)], _, (fun P => (D2, IsL (its.map It.val)) :: (itsL its ++ ((L, P) :: l))), ?_, .inr ⟨notin_of (by kernel_rfl!), rfl⟩, fun s'' S'' => ?_⟩
    · refine .there ?_
      generalize itsL its = X
      induction X with
      | nil => exact .here
      | cons p r ih => exact .there ih
    · obtain ⟨B', hB', hin, -, S5⟩ := S''.absorbP (itsL its) ((L, NsA [(S_ "heap", .ref D2), (S_ "weights", .ref D)]) :: (D2, IsL (its.map It.val)) :: l) (by
        refine List.Perm.trans (List.perm_middle (l₁ := itsL its)).symm ?_
        exact (List.Perm.append_left _ (List.Perm.swap _ _ _)))
      rw [hI.length, List.take_of_length_le (Nat.le_refl _)] at h1
      rw [hI.length] at h2
      exact h D2 its B' _ hB' (fun i hi => hin _ (itsL_mem hi)) h1 h2 S5
set_option maxHeartbeats 4000000 in
theorem law2 {D D2 : Addr} {i0 i1 i2 i3 i4 : It} (F : LawF w A env L cS cC B) (hin : ∀ i ∈ [i0, i1, i2, i3, i4], i.In B)
    (S : St B os s ((L, NsA [(S_ "heap", .ref D2), (S_ "weights", .ref D)]) :: (D2, IsL ([i0, i1, i2, i3, i4].map It.val)) :: l))
    (h : ∀ Td j0 j1 j2 j3 j4 s', siftup i1 [i0, i1, i2, i3, i4] 1 = [j0, j1, j2, j3, j4] → St B os s' ((L, NsA [(S_ "told", .ref Td), (S_ "heap", .ref D2), (S_ "weights", .ref D)]) :: (Td, IsL [.none]) :: (D2, IsL ((siftup j0 [j0, j1, j2, j3, j4] 0).map It.val)) :: l) → Q .next s') :
    wpAny (model PRG w) A (exec st2.1 env) Q E s := by
  have O := F.eo
  have kb := F.kb
  have G := F.gl
  have C := F.cx
  obtain ⟨j0, j1, j2, j3, j4, hj⟩ : ∃ j0 j1 j2 j3 j4, siftup i1 [i0, i1, i2, i3, i4] 1 = [j0, j1, j2, j3, j4] := by
    exact list5 (siftup_len i1 [i0, i1, i2, i3, i4] 1)
  unfold st2
  (repeat wtm_at "z")
  refine frame S (lc := [(D2, IsL ([i0, i1, i2, i3, i4].map It.val))]) (by wtm_at "zpick") (fun B' hB hf S' => ?_)
  refine heapify_spec (k := 9) C (kb.sub hB) (fun i hi => (hin i hi).sub hB) hj S' (fun s' S'' => ⟨_, S'', fun S3 => ?_⟩)
  simp only [List.cons_append, List.nil_append] at S3
  clear S S' S''
  (repeat wtm_at "z")
  refine new_list (by assumption) (by simp) ?_
  intro Td s S
  (repeat wtm_at "z")
  rename St B os _ _ => S
  exact h Td j0 j1 j2 j3 j4 _ hj (S.order (lc := [(L, _), (Td, _), (D2, _)]) (by wtm_at "zpick"))
set_option maxHeartbeats 4000000 in
theorem law3 {D D2 Td : Addr} {its0 : List It} (F : LawF w A env L cS cC B) (hin : ∀ i ∈ its0, i.In B) (hlen : its0.length = 5)
    (hx : ∀ its prs, Run its0 its prs → its.length = 1 → ∃ cds, expandT prs 4 = some cds ∧ ∀ k : Nat, k < 5 → (vAt cds k).isSome = true)
    (S : St B os s ((L, NsA [(S_ "told", .ref Td), (S_ "heap", .ref D2), (S_ "weights", .ref D)]) :: (D2, IsL (its0.map It.val)) :: (cC, CellA none) :: l))
    (h : ∀ Dc B' its prs cds cvs vs s', Sub B B' → Run its0 its prs → its.length = 1 → expandT prs 4 = some cds → CodesAt B' cvs cds → vs.length = 5 → (∀ k : Nat, k < 5 → ∃ v, vs[k]? = some v ∧ valueAt cvs (k : Int) = some v) →
      St B' os s' ((L, NsA [(S_ "told", .ref Td), (S_ "heap", .ref D2), (S_ "weights", .ref D)]) :: (cC, CellA (some (.ref Dc))) :: (Dc, IsL vs) :: l) → Q .next s') :
    wpAny (model PRG w) A (exec st3.1 env) Q E s := by
  have O := F.eo
  have kb := F.kb
  have G := F.gl
  have C := F.cx
  have hc := F.hc
  unfold st3
  (repeat wtm_at "z")
  have S1 := S.order (lc := [(D2, _)]) (by wtm_at "zpick")
  simp only [List.cons_append, List.nil_append] at S1
  refine codes_spec (k := 8) C kb hin hlen hx S1 ?_
  intro Dc B' its prs cds cvs vs s hB h1 h2 h3 h4 h5 h6 S
  clear S1
  have hk := kb.sub hB
  (repeat wtm_at "z")
  rename St B' os _ _ => S
  exact h Dc B' its prs cds cvs vs _ hB h1 h2 h3 h4 h5 h6 (S.order (lc := [(L, _), (cC, _), (Dc, _)]) (by wtm_at "zpick"))
end
/-! text Lc -/
/-- law's codes, as lists -/
structure CodesL (B : Heap) (Dc : Addr) (code : Nat → List Bool) (cvs : List Value) : Prop where
  at_ : At B Dc (IsL cvs)
  len : cvs.length = 5
  get : ∀ i, i < 5 → ∃ v, cvs[i]? = some v ∧ CodeAt B v (code i)
  h8 : ∀ i, (code i).length ≤ 8
theorem CodesL.sub {B B' : Heap} {Dc : Addr} {code : Nat → List Bool} {cvs : List Value} (x : CodesL B Dc code cvs) (k : Sub B B') : CodesL B' Dc code cvs :=
  ⟨x.at_.sub k, x.len, fun i hi => let ⟨v, h1, h2⟩ := x.get i hi; ⟨v, h1, h2.sub k⟩, x.h8⟩
noncomputable def namesOf (code : Nat → List Bool) : List Str := (List.range 5).map fun i => joinB (code i)
noncomputable def costOf (ws : List Int) (code : Nat → List Bool) : Int := (List.zipWith (fun w (i : Nat) => w * ((code i).length : Int)) ws (List.range 5)).sum
section
variable {w : World} {A : Around} {env : Env} {L cS cC sa : Addr} {B : Heap} {os : OsState} {s : Shared} {l : Led} {Q : Flow → Shared → Prop} {E : Value → Shared → Prop} {D D2 Td Dc : Addr} {code : Nat → List Bool} {cvs : List Value}
set_option maxHeartbeats 4000000 in
theorem law4 (F : LawF w A env L cS cC B) (hC : CodesL B Dc code cvs)
    (S : St B os s ((L, NsA [(S_ "told", .ref Td), (S_ "heap", .ref D2), (S_ "weights", .ref D)]) :: (cC, CellA (some (.ref Dc))) :: l))
    (h : ∀ Nm nvs s', StrsOf nvs (namesOf code) → St B os s' ((L, NsA [(S_ "names", .ref Nm), (S_ "told", .ref Td), (S_ "heap", .ref D2), (S_ "weights", .ref D)]) :: (cC, CellA (some (.ref Dc))) :: (Nm, IsL nvs) :: l) → Q .next s') :
    wpAny (model PRG w) A (exec st4.1 env) Q E s := by
  have O := F.eo
  have kb := F.kb
  have G := F.gl
  have C := F.cx
  unfold st4
  refine a_comp O (by wtm_at "zmem") (cl := []) (by rfl) (by kernel_rfl!) (by rfl) (fun _ => by with_unfolding_all rfl) (sw_true O (by wtm_at "zmem") (by rfl) (by kernel_rfl!)) ?_
  (repeat wtm_at "z")
  refine it_list (by assumption) (hC.at_.sub (St.keep (by assumption))) ?_
  intro I s S
  refine ⟨_, _, _, S, fun s' Q E hk hq => self_li (S.rd List.mem_cons_self) hk hq, fun Nm Cf s3 hk S4 => ?_⟩
  have O' := O.comp (C := Cf) (lc' := [S_ "code"]) (cl := []) (scope := { kind := ScopeKind.function, names := [(Str.ofString ".0", NameKind.local), (Str.ofString "code", NameKind.local)], isGenerator := false, isCoroutine := false }) rfl (by kernel_rfl!) (by rfl)
  clear S
  refine loop_list (fun i ys lx => StrsOf ys ((namesOf code).take i) ∧ lx = _) step1 mono1 C.handled O' (by wtm_at "zmem") hC.at_ S4 ⟨.nil, rfl⟩ ?_ ?_
  · rintro i ys lx v B' s hv hB' ⟨hy, rfl⟩ S
    refine Body0.one ?_
    have hi5 : i < 5 := by have := (List.getElem?_eq_some_iff.mp hv).1; rw [hC.len] at this; exact this
    obtain ⟨v', hv', c, us, rfl, hc, hus⟩ := hC.get i hi5
    rw [hv] at hv'; cases hv'
    have h8 := hC.h8 i
    (repeat wtm_at "z")
    refine c_joinB (by assumption) ((hc.sub hB').sub (St.keep (by assumption))) hus (by lia) ?_
    intro t s S
    refine l_append (by assumption) (by wtm_at "zhole") (by rw [hy.length]; simp; lia) ?_
    intro s S
    refine ⟨_, _, _, ⟨?_, rfl⟩, S⟩
    have e : (namesOf code)[i]? = some (joinB (code i)) := by unfold namesOf; rw [List.getElem?_map, List.getElem?_range hi5]; rfl
    rw [List.take_add_one, e]
    exact hy.app (.cons .nil)
  · rintro ys lx lo s ⟨hy, rfl⟩ S
    rw [hC.len] at hy
    refine ⟨rfl, _, _, S, _, _, _, by wtm_at "zhole", .inr ⟨notin_of (by kernel_rfl!), rfl⟩, fun s'' S'' => ?_⟩
    exact h Nm ys _ hy (S''.pick2 (lc := [(L, _), (cC, _), (Nm, _)]) (by wtm_at "zpick") (by wtm_at "zsl"))
set_option maxHeartbeats 4000000 in
theorem law5 {Nm : Addr} {vs : List Value} {ws : List Int} (F : LawF w A env L cS cC B) (hC : CodesL B Dc code cvs) (hD : At B D (IsL vs)) (hI : IntsAre vs ws) (hw : ws.length = 5)
    (S : St B os s ((L, NsA [(S_ "names", .ref Nm), (S_ "told", .ref Td), (S_ "heap", .ref D2), (S_ "weights", .ref D)]) :: (cC, CellA (some (.ref Dc))) :: (Td, IsL [.none]) :: l))
    (h : ∀ t s', St B os s' ((L, NsA [(S_ "names", .ref Nm), (S_ "told", .ref Td), (S_ "heap", .ref D2), (S_ "weights", .ref D)]) :: (cC, CellA (some (.ref Dc))) :: (Td, IsL [.none, .int (costOf ws code) t]) :: l) → Q .next s') :
    wpAny (model PRG w) A (exec st5.1 env) Q E s := by
  have O := F.eo
  have kb := F.kb
  have G := F.gl
  have C := F.cx
  unfold st5
  (repeat wtm_at "z")
  refine m_append (by wtm_at "zrd") ?_
  (repeat wtm_at "z")
  refine e_comp O (cl := []) (by rfl) (by kernel_rfl!) (by rfl) (fun _ => by with_unfolding_all rfl) ?_
  (repeat wtm_at "z")
  refine c_zip (by assumption) (hD.sub (St.keep (by assumption))) (hC.at_.sub (St.keep (by assumption))) ?_
  intro z TI TO i1 i2 s S
  refine it_zip (by assumption) (by wtm_at "zmem") ?_
  refine ⟨_, _, _, S, fun s' Q E hk hq => self_zip (S.rd List.mem_cons_self) hk hq, fun Dz Cf s3 hk S4 => ?_⟩
  have O' := O.comp (C := Cf) (lc' := [S_ "weight", S_ "code"]) (cl := []) (scope := { kind := ScopeKind.function, names := [(Str.ofString ".0", NameKind.local), (Str.ofString "weight", NameKind.local), (Str.ofString "code", NameKind.local), (Str.ofString "len", NameKind.globalImplicit)], isGenerator := false, isCoroutine := false }) rfl (by kernel_rfl!) (by rfl)
  have G' : Glos w (compEnvC { kind := ScopeKind.function, names := [(Str.ofString ".0", NameKind.local), (Str.ofString "weight", NameKind.local), (Str.ofString "code", NameKind.local), (Str.ofString "len", NameKind.globalImplicit)], isGenerator := false, isCoroutine := false } [] Cf env) [(S_ "len", .builtin "len")] := glo_comp (by kernel_rfl!)
  clear S
  refine loop_zip (fun i ys lx => IntsAre ys ((List.zipWith (fun w (i : Nat) => w * ((code i).length : Int)) ws (List.range 5)).take i) ∧ lx = _) step1 mono1 C.handled O' (by wtm_at "zmem") (by wtm_at "zmem") (by decide) hD hC.at_ S4 ⟨.nil, rfl⟩ ?_ ?_
  · rintro j ys lx v u B' s hv hu hB' ⟨hy, rfl⟩ S
    refine Body0.one ?_
    have hi5 : j < 5 := by have := (List.getElem?_eq_some_iff.mp hu).1; rw [hC.len] at this; exact this
    obtain ⟨v', hv', c, us, rfl, hc, hus⟩ := hC.get j hi5
    rw [hu] at hv'; cases hv'
    have h8 := hC.h8 j
    have kb' := kb.sub hB'
    obtain ⟨n1, t1, e1, rfl⟩ := ints_get hI hv
    (repeat wtm_at "z")
    refine len_lA (n := (code j).length) (by assumption) ((hc.sub hB').sub (St.keep (by assumption))) (by rw [hus.length, List.length_map]) (by lia) ?_
    intro t s S
    (repeat wtm_at "z")
    refine b_mul (by assumption) (mulOk (by lia) (by lia)) ?_
    intro t s S
    refine l_append (by assumption) (by wtm_at "zhole") (by rw [hy.length]; simp; lia) ?_
    intro s S
    refine ⟨_, _, _, ⟨?_, rfl⟩, S⟩
    rw [List.take_add_one]
    refine ints_app hy ?_
    rw [List.getElem?_zipWith, e1, List.getElem?_range hi5]
    exact .cons _ _ .nil
  · rintro ys lx lo s ⟨hy, rfl⟩ S
    refine ⟨rfl, _, _, S, fun s'' S'' => ?_⟩
    clear S
    (repeat wtm_at "z")
    rw [List.take_of_length_le (by simp [hI.length, hC.len, hw])] at hy
    refine c_sum C.handled (by assumption) (by wtm_at "zrd") hy ?_
    intro t s S
    (repeat wtm_at "z")
    refine l_append (by assumption) (by wtm_at "zhole") (by simp) ?_
    intro s S
    (repeat wtm_at "z")
    rename St B os _ _ => S
    exact h t _ (S.pick2 (lc := [(L, _), (cC, _), (Td, _)]) (by wtm_at "zpick") (by wtm_at "zsl"))
set_option maxHeartbeats 4000000 in
theorem law6 {Nm : Addr} {vs : List Value} {ws srt : List Int} (F : LawF w A env L cS cC B) (hD : At B D (IsL vs)) (hI : IntsAre vs ws) (hw : ws.length = 5) (hp : srt.Perm ws) (hs : srt.Pairwise (· ≤ ·))
    (S : St B os s ((L, NsA [(S_ "names", .ref Nm), (S_ "told", .ref Td), (S_ "heap", .ref D2), (S_ "weights", .ref D)]) :: l))
    (h : ∀ Du M t s', M ∈ shapes.map (dot srt.reverse) → (∀ c ∈ shapes.map (dot srt.reverse), M ≤ c) → St B os s' ((L, NsA [(S_ "due", .ref Du), (S_ "names", .ref Nm), (S_ "told", .ref Td), (S_ "heap", .ref D2), (S_ "weights", .ref D)]) :: (Du, IsL [.none, .int M t]) :: l) → Q .next s') :
    wpAny (model PRG w) A (exec st6.1 env) Q E s := by
  have O := F.eo
  have kb := F.kb
  have G := F.gl
  have C := F.cx
  unfold st6
  (repeat wtm_at "z")
  refine least_spec (k := 8) C kb hD hI hw hp hs (by assumption) ?_
  intro M t s hm1 hm2 S
  (repeat wtm_at "z")
  refine new_list (by assumption) (by simp) ?_
  intro Du s S
  (repeat wtm_at "z")
  rename St B os _ _ => S
  exact h Du M t _ hm1 hm2 (S.order (lc := [(L, _), (Du, _)]) (by wtm_at "zpick"))
end
/-! text Ld -/
inductive TupsAt (B : Heap) : List Value → List (Int × Bool) → Prop
  | nil : TupsAt B [] []
  | cons {T : Addr} {a : Int} {b : Bool} {t : Tok} {vs : List Value} {ds : List (Int × Bool)} : At B T (IsT [.int a t, .bool b]) → TupsAt B vs ds → TupsAt B (.ref T :: vs) ((a, b) :: ds)
theorem TupsAt.sub {B B' : Heap} {vs : List Value} {ds : List (Int × Bool)} (x : TupsAt B vs ds) (k : Sub B B') : TupsAt B' vs ds := by
  induction x with
  | nil => exact .nil
  | cons h _ ih => exact .cons (h.sub k) ih
theorem TupsAt.snoc {B : Heap} {vs : List Value} {ds : List (Int × Bool)} {T : Addr} {a : Int} {b : Bool} {t : Tok} (x : TupsAt B vs ds) (h : At B T (IsT [.int a t, .bool b])) : TupsAt B (vs ++ [.ref T]) (ds ++ [(a, b)]) := by
  induction x with
  | nil => exact .cons h .nil
  | cons h' _ ih => exact .cons h' ih
theorem TupsAt.len {B : Heap} {vs : List Value} {ds : List (Int × Bool)} (x : TupsAt B vs ds) : vs.length = ds.length := by
  induction x with
  | nil => rfl
  | cons _ _ ih => simp [ih]
section
variable {w : World} {A : Around} {B : Heap} {os : OsState} {s : Shared} {l : Led} {Q E : Value → Shared → Prop} {X : Addr} {vs : List Value} {xs : List Str} {r : Rd} {kvs : List (Str × Value)} {mn fn : Str} {t1 t2 : Tok} {k : Nat}
theorem mk_ignore (C : Cx A (k + 2)) (kb : KB w B) (hX : At B X (IsL vs)) (hx : StrsOf vs xs) (hne : xs ≠ []) (hnd : xs.Nodup) (hlen : xs.length < 1000) (S : St B os s l)
    (h : ∀ B' (r : Rd) t s', Sub B B' → RdIn w B' r xs → St B' os s' ((r.ig, DictG (strKind PRG w) [(K0, .int 1 t)]) :: l) → Q (.ref r.x) s') :
    wpAny (model PRG w) A (call (.ref 114) [.ref X]) Q E s := by
  refine frame S Pick.nil (fun B' hB hf S' => ?_)
  refine ignore_spec (k := k) C (kb.sub hB) (hX.sub hB) hx hne hnd hlen S' (fun r t s' hig S'' => ⟨_, S'', fun S3 => ?_⟩)
  obtain ⟨B2, hB2, hA, -, S4⟩ := S3.absorb (lc := [(r.dr, _), (r.ms, _), (r.x, _), (r.dx, _)]) (by simp only [List.cons_append, List.nil_append]; wtm_at "zpick")
  exact h B2 r t s' hB2 ⟨hA (r.x, InstA 114 r.dx) (by simp), hA (r.dx, AttrA r.attrs) (by simp), hA (r.ms, SetA PRG w xs) (by simp), hA (r.dr, IsL []) (by simp), hig⟩ S4
theorem ask_names (C : Cx A (k + 1)) (kb : KB w B) (R : RdIn w B r xs) (hne : xs ≠ []) (hlen : xs.length < 1000) (hxl : ∀ x ∈ xs, x.length < 2 ^ 20) (hv : valueAt kvs mn = none) (hz : kvs.length < 2 ^ 20) (S : St B os s ((r.ig, DictG (strKind PRG w) kvs) :: l))
    (h : ∀ t t' s', St B os s' ((r.ig, DictG (strKind PRG w) (kvs ++ [(mn, .int (if hitB xs mn then 1 else 0) t)])) :: l) → Q (.int (if hitB xs mn then 1 else 0) t') s') :
    wpAny (model PRG w) A (call (.ref 111) [.ref r.x, .str fn t1, .str mn t2]) Q E s := by
  refine frame S (Pick.cons Take.here Pick.nil) (fun B' hB hf S' => ?_)
  exact names_spec (k := k) C (kb.sub hB) (R.sub hB) hne hlen hxl hv hz S' (fun t t' s' S'' => ⟨_, S'', fun S3 => h t t' s' S3⟩)
end
theorem namesOf_eq (code : Nat → List Bool) : namesOf code = [joinB (code 0), joinB (code 1), joinB (code 2), joinB (code 3), joinB (code 4)] := rfl
theorem hit_others {code : Nat → List Bool} (h0 : ∀ i, code i ≠ []) (hpf : ∀ i j, i < 5 → j < 5 → code i <+: code j → i = j) {i : Nat} (hi : i < 5) : hitB ((namesOf code).take i ++ (namesOf code).drop (i + 1)) (joinB (code i)) = false := by
  have key : ∀ j, j < 5 → j ≠ i → (decide (joinB (code i) = joinB (code j)) || Txt.startswith (joinB (code i)) (joinB (code j) ++ Str.ofString ".")) = false := by
    intro j hj hne
    rw [Bool.eq_false_iff]
    intro hh
    exact hne (hpf j i hj hi ((hit_iff (h0 j) (h0 i)).mp hh))
  unfold hitB
  rw [List.any_eq_false]
  intro m hm
  have : ∃ j, j < 5 ∧ j ≠ i ∧ m = joinB (code j) := by
    rw [namesOf_eq] at hm
    rcases (by lia : i = 0 ∨ i = 1 ∨ i = 2 ∨ i = 3 ∨ i = 4) with rfl | rfl | rfl | rfl | rfl <;> simp at hm <;> rcases hm with rfl | rfl | rfl | rfl <;> refine ⟨_, ?_, ?_, rfl⟩ <;> decide
  obtain ⟨j, hj, hne, rfl⟩ := this
  rw [key j hj hne]; decide
theorem names_nodup {code : Nat → List Bool} (h0 : ∀ i, code i ≠ []) (hpf : ∀ i j, i < 5 → j < 5 → code i <+: code j → i = j) : (namesOf code).Nodup := by
  unfold namesOf
  rw [List.Nodup, List.pairwise_map]
  refine List.Pairwise.imp_of_mem (R := fun a b => a ≠ b) ?_ (List.nodup_range (n := 5))
  intro a b ha hb hne e
  have := joinB_inj (h0 a) (h0 b) e
  exact hne (hpf a b (List.mem_range.mp ha) (List.mem_range.mp hb) (by rw [this]; exact List.prefix_refl _))
theorem StrsOf.take : ∀ {vs : List Value} {xs : List Str} (n : Nat), StrsOf vs xs → StrsOf (vs.take n) (xs.take n)
  | _, _, 0, _ => .nil
  | _, _, n + 1, .nil => .nil
  | _, _, n + 1, .cons h => .cons (h.take n)
theorem StrsOf.getS : ∀ {vs : List Value} {xs : List Str} {i : Nat} {x : Str}, StrsOf vs xs → xs[i]? = some x → ∃ t, vs[i]? = some (.str x t)
  | _, _, _, _, .nil, e => by simp at e
  | _, _, 0, _, .cons (t := t) _, e => by simp at e; exact ⟨t, by rw [← e]; rfl⟩
  | _, _, i + 1, _, .cons h, e => by
    obtain ⟨t', h2⟩ := h.getS (i := i) (by simpa using e)
    exact ⟨t', by simpa using h2⟩
theorem is_ty {prog : Program} {w : World} {A : Around} {E : Value → Shared → Prop} {s : Shared} {Q : Value → Shared → Prop} {T : String} (h : Q (.bool true) s) : wpAny (model prog w) A (compareOp .Is (.type T) (.type T)) Q E s := wpAny_is_self rfl h
section
variable {w : World} {A : Around} {env : Env} {L cS cC sa : Addr} {B : Heap} {os : OsState} {s : Shared} {l : Led} {Q : Flow → Shared → Prop} {E : Value → Shared → Prop} {D D2 Td Dc Nm Du : Addr} {code : Nat → List Bool} {nvs tv dv : List Value}
set_option maxHeartbeats 8000000 in
theorem law7 (F : LawF w A env L cS cC B) (hN : At B Nm (IsL nvs)) (hnv : StrsOf nvs (namesOf code)) (h0 : ∀ i, code i ≠ []) (h8 : ∀ i, (code i).length ≤ 8) (hpf : ∀ i j, i < 5 → j < 5 → code i <+: code j → i = j) (htv : tv.length < 1000) (hdv : dv.length < 1000)
    (S : St B os s ((L, NsA [(S_ "due", .ref Du), (S_ "names", .ref Nm), (S_ "told", .ref Td), (S_ "heap", .ref D2), (S_ "weights", .ref D)]) :: (Td, IsL tv) :: (Du, IsL dv) :: l))
    (h : ∀ B' tx dx s', Sub B B' → TupsAt B' tx (List.replicate 5 (0, true)) → TupsAt B' dx (List.replicate 5 (0, true)) → St B' os s' ((L, NsA [(S_ "due", .ref Du), (S_ "names", .ref Nm), (S_ "told", .ref Td), (S_ "heap", .ref D2), (S_ "weights", .ref D)]) :: (Td, IsL (tv ++ tx)) :: (Du, IsL (dv ++ dx)) :: l) → Q .next s') :
    wpAny (model PRG w) A (exec st7.1 env) Q E s := by
  have O := F.eo
  have kb := F.kb
  have G := F.gl
  have C := F.cx
  unfold st7
  (repeat wtm_at "z")
  refine r_range (by assumption) ?_
  intro Rg s S
  refine it_range (by assumption) (by wtm_at "zmem") (by lia) (by decide) (by decide) ?_
  intro I s S
  have hnl : nvs.length = 5 := by rw [hnv.length]; rfl
  refine f_for (fun i s => ∃ B' tx dx, Sub B B' ∧ TupsAt B' tx (List.replicate i (0, true)) ∧ TupsAt B' dx (List.replicate i (0, true)) ∧ St B' os s ((L, NsA [(S_ "due", .ref Du), (S_ "names", .ref Nm), (S_ "told", .ref Td), (S_ "heap", .ref D2), (S_ "weights", .ref D)]) :: (Td, IsL (tv ++ tx)) :: (Du, IsL (dv ++ dx)) :: (I, IsRI i (5 - i) 1) :: l)) 5
    ⟨B, [], [], Sub.rfl, .nil, .nil, by rw [List.append_nil, List.append_nil]; exact S.pick2 (lc := [(L, _), (Td, _), (Du, _), (I, _)]) (by wtm_at "zpick") (by wtm_at "zsl")⟩ ?_ ?_
  · rintro i s hi ⟨B1, tx, dx, hB, htx, hdx, S⟩
    have kb1 := kb.sub hB
    refine nx_ri (by assumption) (by wtm_at "zhole") (by lia) ?_
    intro t s S
    (repeat wtm_at "z")
    refine sl_tail (by assumption) ((hN.sub hB).sub (St.keep (by assumption))) .none (.int _ _) .none (by decide) (by lia) ?_
    intro X1 s S
    rw [slicePick_upto nvs.toArray i (by rw [List.size_toArray]; lia)] at S
    (repeat wtm_at "z")
    refine sl_tail (by assumption) ((hN.sub hB).sub (St.keep (by assumption))) (.int _ _) .none .none (by decide) (by lia) ?_
    intro X2 s S
    rw [show ((i : Int) + 1) = ((i + 1 : Nat) : Int) by lia, slicePick_from nvs.toArray (i + 1) (by rw [List.size_toArray]; lia)] at S
    simp only [] at S
    (repeat wtm_at "z")
    refine b_addL (by assumption) (by wtm_at "zrd") (by wtm_at "zrd") (by simp; lia) ?_
    intro X s S
    (repeat wtm_at "z")
    rename St B1 os _ _ => S
    obtain ⟨B2, hB2, hX, -, S2⟩ := S.absorb (lc := [(X, _)]) (by wtm_at "zpick")
    have hX := hX _ List.mem_cons_self
    clear S
    have hX' : At B2 X (IsL (nvs.take i ++ nvs.drop (i + 1))) := hX
    have hxs := (hnv.take i).app (hnv.drop (i + 1))
    have hxl : ∀ x ∈ (namesOf code).take i ++ (namesOf code).drop (i + 1), x.length < 2 ^ 20 := by
      intro x hx
      have hx' : x ∈ namesOf code := by
        rcases List.mem_append.mp hx with q | q
        · exact List.mem_of_mem_take q
        · exact List.mem_of_mem_drop q
      obtain ⟨j, _, rfl⟩ := List.mem_map.mp hx'
      have := joinB_len (code j); have := h8 j; lia
    have hlen4 : ((namesOf code).take i ++ (namesOf code).drop (i + 1)).length = 4 := by simp [namesOf]; lia
    have hnd : ((namesOf code).take i ++ (namesOf code).drop (i + 1)).Nodup := by
      rw [← List.eraseIdx_eq_take_drop_succ]
      exact (names_nodup h0 hpf).sublist (List.eraseIdx_sublist _ _)
    have hne : (namesOf code).take i ++ (namesOf code).drop (i + 1) ≠ [] := by intro e; rw [e] at hlen4; simp at hlen4
    refine mk_ignore (k := 10) C (kb1.sub hB2) hX' hxs hne hnd (by lia) (by assumption) ?_
    intro B3 r tr s hB3 R S
    clear S2
    have kb3 := (kb1.sub hB2).sub hB3
    (repeat wtm_at "z")
    refine rm_names R kb3 (by assumption) ?_
    (repeat wtm_at "z")
    obtain ⟨tn, htn⟩ := hnv.getS (i := i) (x := joinB (code i)) (by unfold namesOf; rw [List.getElem?_map, List.getElem?_range hi]; rfl)
    refine g_item ((((hN.sub hB).sub hB2).sub hB3).sub (St.keep (by assumption))) (by lia) (by lia) (v := .str (joinB (code i)) tn) (by simpa using htn) ?_
    (repeat wtm_at "z")
    refine ask_names (k := 11) (kvs := [(K0, .int 1 tr)]) C kb3 R hne (by lia) hxl ?_ (by show 1 < 2 ^ 20; lia) (by assumption) ?_
    · unfold valueAt
      rw [List.find?_cons_of_neg (by simpa using fun e : K0 = joinB (code i) => joinB_ne_K0 (h0 i) e.symm)]; rfl
    intro t1 t2 s S
    rw [hit_others h0 hpf hi] at S ⊢
    (repeat wtm_at "z")
    refine m_append (by wtm_at "zrd") ?_
    (repeat wtm_at "z")
    refine c_typeI ?_
    (repeat wtm_at "z")
    refine is_ty ?_
    (repeat wtm_at "z")
    refine new_tup (by assumption) (by simp) ?_
    intro T s S
    (repeat wtm_at "z")
    refine l_append (by assumption) (by wtm_at "zhole") (by rw [List.length_append, htx.len]; simp; lia) ?_
    intro s S
    (repeat wtm_at "z")
    refine m_append (by wtm_at "zrd") ?_
    (repeat wtm_at "z")
    refine new_tup (by assumption) (by simp) ?_
    intro U s S
    (repeat wtm_at "z")
    refine l_append (by assumption) (by wtm_at "zhole") (by rw [List.length_append, hdx.len]; simp; lia) ?_
    intro s S
    (repeat wtm_at "z")
    rename St B3 os _ _ => S
    obtain ⟨B4, hB4, hTU, -, S4⟩ := S.absorb (lc := [(T, _), (U, _)]) (by wtm_at "zpick")
    have hT := hTU _ List.mem_cons_self
    have hU := hTU _ (List.mem_cons_of_mem _ List.mem_cons_self)
    have hBB := (hB2.trans hB3).trans hB4
    refine f_next ⟨B4, tx ++ [.ref T], dx ++ [.ref U], hB.trans hBB, ?_, ?_, ?_⟩
    · rw [List.replicate_succ']; exact (htx.sub hBB).snoc hT
    · rw [List.replicate_succ']; exact (hdx.sub hBB).snoc hU
    · have S5 := (S4.pick2 (lc := [(L, _), (Td, _), (Du, _), (I, _)]) (l' := l) (by wtm_at "zpick") (by wtm_at "zsl")).names [(S_ "due", .ref Du), (S_ "names", .ref Nm), (S_ "told", .ref Td), (S_ "heap", .ref D2), (S_ "weights", .ref D)] (by wtm_at "zsub") (by kernel_rfl!)
      rw [List.append_assoc, List.append_assoc] at S5
      have e : (5 : Int) - (i : Int) - 1 = 5 - ((i + 1 : Nat) : Int) := by lia
      rw [e] at S5
      exact S5
  · rintro s ⟨B1, tx, dx, hB, htx, hdx, S⟩
    refine nx_riE C.handled (by assumption) (by wtm_at "ztake") (by lia) ?_
    intro s S
    exact ⟨rfl, h B1 tx dx s hB htx hdx S⟩
end
/-! text FwM -/
/-- an iterator and the names that it fills at every turn -/
structure DrawK (lo0 : List (Str × Value)) (prog : Program) (w : World) (A : Around) (target : Expr) (env : Env) (I C : Addr) (fp wr : List Addr) (n : Nat) (T : Nat → Heap → Prop) (V : Nat → List (Str × Value) → Prop) : Prop where
  sub : ∀ b ∈ wr, b ∈ fp
  live : ∀ i h, T i h → ∀ a ∈ fp, ∃ o, h.get? a = some o
  keep : ∀ i h h', T i h → (∀ b ∈ fp, ∀ o, h.get? b = some o → h'.get? b = some o) → T i h'
  item : ∀ i (s : Shared) (lo : List (Str × Value)) (K : Shared → Prop), i < n → (∀ p ∈ lo0, p ∈ lo) → T i s.heap → At s.heap C (NsA lo) →
    (∀ h' tk lo', V i lo' → T (i + 1) h' → At h' C (NsA lo') → (∀ b o, b ∉ wr → b ≠ C → s.heap.get? b = some o → h'.get? b = some o) → K { s with heap := h', toks := tk }) →
    wpAny (model prog w) A (pyNext (.ref I)) (fun r s₁ => ∃ v, r = some v ∧ wpAny (model prog w) A (letOwnedTupleGo target (.ref I) v) (fun _ s₀ => wpAny (model prog w) A (assign target env v) (fun _ s₂ => K s₂) NoE s₀) NoE s₁) NoE s
  done : ∀ (s : Shared) (K : Option Value → Shared → Prop), T n s.heap → (∀ h' tk, (∀ b o, b ∉ wr → s.heap.get? b = some o → h'.get? b = some o) → K none { s with heap := h', toks := tk }) → wpAny (model prog w) A (pyNext (.ref I)) K NoE s
  self : ∀ i (s : Shared) (Q : Value → Shared → Prop) (E : Value → Shared → Prop), T i s.heap → Q (.ref I) s → wpAny (model prog w) A (pyIter (.ref I)) Q E s

section
variable {prog : Program} {w : World} {A : Around} {env : Env} {I C : Addr} {fp wr : List Addr} {n : Nat} {T : Nat → Heap → Prop} {lc : List Str} {cs : List (Str × Addr)}
theorem DrawK.name {lo0 : List (Str × Value)} (hnd0 : nodupB (lo0.map (·.1)) = true) {x : Str} (hx0 : x ∉ lo0.map (·.1)) {px : Pos} {P : Nat → Value → Prop} (W : Walks prog w A I fp wr n P T) (O : EO env C lc cs) (hx : x ∈ lc) (hC : C ∉ fp) (live : ∀ i h, T i h → ∀ a ∈ fp, ∃ o, h.get? a = some o) : DrawK lo0 prog w A (.Name x px) env I C fp wr n T (fun i lo => ∃ v, P i v ∧ lo = (x, v) :: lo0) where
  sub := W.sub
  live := live
  keep := W.frame
  item := fun i s lo K hi hlo hT hA hK => by
    refine W.item i s _ _ hi hT fun v h' tk hP hT' hk => ⟨v, rfl, wpAny_pure ?_⟩
    have hCw : C ∉ wr := fun q => hC (W.sub _ q)
    obtain ⟨m, hn, hml, _⟩ := (show At h' C (NsA lo) from let ⟨o, ho, hp⟩ := hA; ⟨o, hk _ _ hCw ho, hp⟩).ns
    refine wpAny_assign_Name (wpAny_storeName_local (O.locs x hx).1 (O.loc ▸ hn) (fun h₂ hn₂ hs₂ => ?_) O.plainS)
    rw [O.loc] at hn₂ hs₂
    refine hK h₂ _ ((x, v) :: lo0) ⟨v, hP, rfl⟩ (W.frame _ _ _ hT' fun b hb o e => hs₂.extBut b o (fun q => hC (q ▸ hb)) e) (NsA.at hn₂ (fun p hp => ?_) (by rw [List.map_cons, List.nodup_cons]; exact ⟨hx0, nodup_of hnd0⟩)) fun b o hb hbC e => hs₂.extBut b o hbC (hk b o hb e)
    rcases List.mem_cons.mp hp with rfl | hp
    · simp
    · rw [if_neg (fun e => hx0 (by rw [← e]; exact List.mem_map_of_mem (f := (·.1)) hp))]; exact hml _ (hlo p hp)
  done := fun s K hT hK => W.done s _ _ hT hK
  self := W.self
end
section
variable {prog : Program} {w : World} {A : Around} {s : Shared} {env : Env}
/-- the loop, its ledger: the names, the list made, the rest -/
theorem draw_loopK {lo0 : List (Str × Value)} {elt target : Expr} {gens : List Comprehension} {scope : Scope} {pos : Pos} {depth : Nat} {R : Result → Shared → Prop} {Body : (Shared → Prop) → Shared → Prop} {I C D : Addr} {fp wr : List Addr} {n : Nat} {T : Nat → Heap → Prop} {V : Nat → List (Str × Value) → Prop}
    {B : Heap} {os : OsState} {lo : List (Str × Value)} {ys : List Value} {lx : Led}
    (Inv : Nat → List Value → Led → Prop) (hst : StepOk prog w A (.ListComp elt gens scope pos) target depth (.ref I) (.ref D) env Body) (mono : ∀ K K' s, (∀ s, K s → K' s) → Body K s → Body K' s) (Dr : DrawK lo0 prog w A target env I C fp wr n T V)
    (hlo0 : ∀ p ∈ lo0, p ∈ lo) (S : St B os s ((C, NsA lo) :: (D, IsL ys) :: lx)) (hi : Inv 0 ys lx) (hT : T 0 s.heap) (hfp : ∀ a ∈ fp, a ≠ C ∧ a ≠ D ∧ a ∉ lx.map (·.1)) (hwr : ∀ a ∈ wr, B.get? a = none)
    (turn : ∀ i ys lx lo B' s, i < n → Sub B B' → Inv i ys lx → V i lo → St B' os s ((C, NsA lo) :: (D, IsL ys) :: lx) → Body (fun s' => ∃ ys' lx' lo', Inv (i + 1) ys' lx' ∧ (∀ p ∈ lo0, p ∈ lo') ∧ St B' os s' ((C, NsA lo') :: (D, IsL ys') :: lx')) s)
    (done : ∀ ys lx lo s, Inv n ys lx → (∀ p ∈ lo0, p ∈ lo) → St B os s ((C, NsA lo) :: (D, IsL ys) :: lx) → R (.ok .next) s) :
    codeAny (model prog w) A (.compLoop (.ListComp elt gens scope pos) depth (.ref I) (.ref D) env) R s := by
  refine code_loop hst (fun i s => ∃ ys lx lo, Inv i ys lx ∧ (∀ p ∈ lo0, p ∈ lo) ∧ St B os s ((C, NsA lo) :: (D, IsL ys) :: lx) ∧ T i s.heap ∧ ∀ a ∈ fp, a ≠ C ∧ a ≠ D ∧ a ∉ lx.map (·.1)) n ⟨ys, lx, lo, hi, hlo0, S, hT, hfp⟩ ?_ ?_
  · rintro i s hlt ⟨ys, lx, lo, hi, hlo, S, hT, hfp⟩
    refine Dr.item i s lo _ hlt hlo hT (S.rd List.mem_cons_self) fun h' tk lo' hV hT' hA hk => ?_
    have hw : ∀ a ∈ wr, a ∉ ((D, IsL ys) :: lx).map (·.1) := fun a ha => by
      have := hfp a (Dr.sub a ha)
      rw [List.map_cons, List.mem_cons]
      rintro (q | q)
      · exact this.2.1 q
      · exact this.2.2 q
    have S' : St B os ({ s with heap := h', toks := tk } : Shared) ((C, NsA lo') :: (D, IsL ys) :: lx) := S.firstAnd wr hwr hw hA hk
    obtain ⟨hB, S2⟩ := S'.wall
    have hne : ∀ a ∈ fp, a ∉ ((C, NsA lo') :: (D, IsL ys) :: lx).map (·.1) := fun a ha => by
      have := hfp a ha
      rw [List.map_cons, List.map_cons, List.mem_cons, List.mem_cons]
      rintro (q | q | q)
      · exact this.1 q
      · exact this.2.1 q
      · exact this.2.2 q
    have hTB : T (i + 1) (hideAll h' (((C, NsA lo') :: (D, IsL ys) :: lx).map (·.1))) := Dr.keep _ _ _ hT' fun b hb o e => hideAll_get _ e (hne b hb)
    refine mono _ _ _ ?_ (turn i ys lx lo' _ _ hlt hB hi hV S2)
    rintro s' ⟨ys', lx', lo'', hi', hlo'', S3⟩
    refine ⟨ys', lx', lo'', hi', hlo'', S3.base hB, Dr.keep _ _ _ hTB fun b _ o e => S3.keep _ _ e, fun a ha => ?_⟩
    obtain ⟨o, ho⟩ := Dr.live _ _ hTB a ha
    have key : ∀ p ∈ ((C, NsA lo'') :: (D, IsL ys') :: lx'), a ≠ p.1 := fun p hp q => by
      have := S3.fresh p hp
      rw [← q, ho] at this; cases this
    exact ⟨key _ List.mem_cons_self, key _ (List.mem_cons_of_mem _ List.mem_cons_self), fun q => by
      obtain ⟨p, hp, e⟩ := List.mem_map.mp q
      exact key p (List.mem_cons_of_mem _ (List.mem_cons_of_mem _ hp)) e.symm⟩
  · rintro s ⟨ys, lx, lo, hi, hlo, S, hT, hfp⟩
    refine Dr.done s _ hT fun h' tk hk => ⟨rfl, done ys lx lo _ hi hlo (S.others wr hwr (fun a ha => ?_) hk)⟩
    have := hfp a (Dr.sub a ha)
    rw [List.map_cons, List.map_cons, List.mem_cons, List.mem_cons]
    rintro (q | q | q)
    · exact this.1 q
    · exact this.2.1 q
    · exact this.2.2 q
end
section
variable {prog : Program} {w : World} {A : Around} {s : Shared} {env : Env} {elt : Expr} {gens : List Comprehension} {scope : Scope} {pos : Pos} {depth : Nat} {R : Result → Shared → Prop} {Body : (Shared → Prop) → Shared → Prop} {I C D a : Addr} {vs us : List Value}
    {B : Heap} {os : OsState} {lo : List (Str × Value)} {ys : List Value} {lx : Led} {lc : List Str} {cs : List (Str × Addr)} {x y : Str} {px py tp : Pos} {kk : Nat}
theorem loop_listK {lo0 : List (Str × Value)} (hnd0 : nodupB (lo0.map (·.1)) = true) (hx0 : (lo0.all fun q => !(q.1 == x)) = true) (hlo0 : ∀ p ∈ lo0, p ∈ lo) (Inv : Nat → List Value → Led → Prop) (hst : StepOk prog w A (.ListComp elt gens scope pos) (.Name x px) depth (.ref I) (.ref D) env Body) (mono : ∀ K K' s, (∀ s, K s → K' s) → Body K s → Body K' s)
    (hh : A.handled = none) (O : EO env C lc cs) (hx : x ∈ lc) (ha : At B a (IsL vs)) (S : St B os s ((C, NsA lo) :: (D, IsL ys) :: (I, IsLI a 0) :: lx)) (hi : Inv 0 ys lx)
    (turn : ∀ i ys lx v B' s, vs[i]? = some v → Sub B B' → Inv i ys lx → St B' os s ((C, NsA ((x, v) :: lo0)) :: (D, IsL ys) :: lx) → Body (fun s' => ∃ ys' lx' lo', Inv (i + 1) ys' lx' ∧ (∀ p ∈ lo0, p ∈ lo') ∧ St B' os s' ((C, NsA lo') :: (D, IsL ys') :: lx')) s)
    (done : ∀ ys lx lo s, Inv vs.length ys lx → (∀ p ∈ lo0, p ∈ lo) → St B os s ((C, NsA lo) :: (D, IsL ys) :: lx) → R (.ok .next) s) :
    codeAny (model prog w) A (.compLoop (.ListComp elt gens scope pos) depth (.ref I) (.ref D) env) R s := by
  have off := S.off ha
  have n1 := List.pairwise_cons.mp S.nd
  have n2 := List.pairwise_cons.mp n1.2
  have n3 := List.pairwise_cons.mp n2.2
  have Dr := DrawK.name (lo0 := lo0) hnd0 (notin_of hx0) (px := px) (Walks.list (prog := prog) (w := w) hh I a (off I (.tail _ (.tail _ (.head _)))) vs.toArray) O hx (C := C) (fun hm => by
    rcases List.mem_cons.mp hm with e | hm
    · exact n1.1 I (.tail _ (.head _)) e
    · exact off C (.head _) (List.mem_singleton.mp hm).symm)
    (fun i h hT => List.forall_mem_cons.mpr ⟨ex_at hT.1, List.forall_mem_singleton.mpr (hT.2.imp fun _ q => q.1)⟩)
  have S' : St B os s ((C, NsA lo) :: (D, IsL ys) :: lx) := S.sub (.cons_cons _ (.cons_cons _ (List.sublist_cons_self _ _)))
  refine draw_loopK Inv hst mono Dr hlo0 S' hi ⟨S.rd (.tail _ (.tail _ (.head _))), (ha.sub S.keep).list⟩
    (List.forall_mem_cons.mpr ⟨⟨Ne.symm (n1.1 I (.tail _ (.head _))), Ne.symm (n2.1 I (.head _)), fun q => n3.1 I q rfl⟩, List.forall_mem_singleton.mpr ⟨off C (.head _), off D (.tail _ (.head _)), fun q => off a (.tail _ (.tail _ (.tail _ q))) rfl⟩⟩)
    (List.forall_mem_singleton.mpr (S.fresh (I, IsLI a 0) (.tail _ (.tail _ (.head _))))) (fun i ys lx lo B' s hi hB hI hV S => ?_) (fun ys lx lo s hI hlo S => done ys lx lo s hI hlo S)
  obtain ⟨v, hv, rfl⟩ := hV
  exact turn i ys lx v B' s (arr_get hv) hB hI S
end
/-! text Le -/
inductive RowsAt (B : Heap) : List Value → List (List Bool) → Prop
  | nil : RowsAt B [] []
  | cons {v : Value} {r : List Bool} {vs : List Value} {rs : List (List Bool)} : CodeAt B v r → RowsAt B vs rs → RowsAt B (v :: vs) (r :: rs)
theorem RowsAt.sub {B B' : Heap} {vs : List Value} {rs : List (List Bool)} (x : RowsAt B vs rs) (k : Sub B B') : RowsAt B' vs rs := by
  induction x with
  | nil => exact .nil
  | cons h _ ih => exact .cons (h.sub k) ih
theorem RowsAt.get {B : Heap} : ∀ {vs : List Value} {rs : List (List Bool)} {i : Nat} {v : Value}, RowsAt B vs rs → vs[i]? = some v → ∃ r, rs[i]? = some r ∧ CodeAt B v r
  | _, _, _, _, .nil, e => by simp at e
  | _, _, 0, _, .cons (r := r) h _, e => by simp at e; exact ⟨r, rfl, by rw [← e]; exact h⟩
  | _, _, i + 1, _, .cons _ h, e => by
    obtain ⟨r, h1, h2⟩ := h.get (i := i) (by simpa using e)
    exact ⟨r, by simpa using h1, h2⟩
theorem RowsAt.len {B : Heap} {vs : List Value} {rs : List (List Bool)} (x : RowsAt B vs rs) : vs.length = rs.length := by
  induction x with
  | nil => rfl
  | cons _ _ ih => simp [ih]
noncomputable def ext2 (r : List Bool) : List (List Bool) := [r ++ [false], r ++ [true]]
noncomputable def rowsN : Nat → List (List Bool)
  | 0 => [[]]
  | i + 1 => (rowsN i).flatMap ext2
noncomputable abbrev NR := Addr × List Value × List Bool
noncomputable def nrL (nr : List NR) : Led := (nr.map fun r => (r.1, IsL r.2.1)).reverse
noncomputable def nrV (nr : List NR) : List Value := nr.map fun r => .ref r.1
noncomputable def NrOk (nr : List NR) : Prop := ∀ r ∈ nr, StrsOf r.2.1 (r.2.2.map part)
theorem rows_of {B : Heap} : ∀ {nr : List NR}, NrOk nr → (∀ p ∈ nrL nr, At B p.1 p.2) → RowsAt B (nrV nr) (nr.map (·.2.2))
  | [], _, _ => .nil
  | r :: nr, h, ha => .cons ⟨r.1, r.2.1, rfl, ha (r.1, IsL r.2.1) (by simp [nrL]), h r (.head _)⟩ (rows_of (fun q hq => h q (.tail _ hq)) fun p hp => ha p (by
    simp only [nrL, List.map_cons, List.reverse_cons, List.mem_append]; exact .inl hp))
theorem rowsN_bd : ∀ i, i ≤ 4 → (rowsN i).length ≤ 16 ∧ ∀ r ∈ rowsN i, r.length = i := by
  intro i hi
  rcases (by lia : i = 0 ∨ i = 1 ∨ i = 2 ∨ i = 3 ∨ i = 4) with rfl | rfl | rfl | rfl | rfl <;> decide
theorem hole_mid {L : Addr} {P : Asn} {l : Led} : ∀ X : Led, Hole L P (fun Q => X ++ (L, Q) :: l) (X ++ (L, P) :: l)
  | [] => .here
  | _ :: X => .there (hole_mid X)
theorem code_startL {prog : Program} {w : World} {A : Around} {s : Shared} {env : Env} {elt target iter : Expr} {ifs : List Expr} {g : Comprehension} {scope : Scope} {pos : Pos} {I a : Addr} {i : Nat} {acc : Value} {R : Result → Shared → Prop} (hI : At s.heap I (IsLI a i))
    (lp : codeAny (model prog w) A (.compLoop (.ListComp elt [g, ⟨target, iter, ifs, 0⟩] scope pos) 1 (.ref I) acc env) R s) : codeAny (model prog w) A (.compStart (.ListComp elt [g, ⟨target, iter, ifs, 0⟩] scope pos) 1 (.ref I) acc env) R s :=
  code_start1 lp (self_li hI Sub.rfl lp)
theorem strs_at : ∀ {vs : List Value} {xs : List Str} {i : Nat} {v : Value}, StrsOf vs xs → vs[i]? = some v → ∃ x t, xs[i]? = some x ∧ v = .str x t
  | _, _, _, _, .nil, e => by simp at e
  | _, _, 0, _, .cons (x := x) (t := t) _, e => by simp at e; exact ⟨x, t, rfl, e.symm⟩
  | _, _, i + 1, _, .cons h, e => by
    obtain ⟨x, t, h1, h2⟩ := strs_at (i := i) h (by simpa using e)
    exact ⟨x, t, by simpa using h1, h2⟩
theorem nrV_len (nr : List NR) : (nrV nr).length = nr.length := List.length_map _
section
variable {w : World} {A : Around} {env : Env} {L cS cC sa : Addr} {B : Heap} {os : OsState} {s : Shared} {l : Led} {Q : Flow → Shared → Prop} {E : Value → Shared → Prop} {lo : List (Str × Value)}
set_option maxHeartbeats 4000000 in
theorem law8 (F : LawF w A env L cS cC B) (hlo : (lo.all fun q => !(q.1 == S_ "rows")) = true) (S : St B os s ((L, NsA lo) :: l))
    (h : ∀ Rw rvs B' s', Sub B B' → At B' Rw (IsL rvs) → RowsAt B' rvs (rowsN 0) → St B' os s' ((L, NsA ((S_ "rows", .ref Rw) :: lo)) :: l) → Q .next s') :
    wpAny (model PRG w) A (exec st8.1 env) Q E s := by
  have O := F.eo
  have kb := F.kb
  have G := F.gl
  have C := F.cx
  unfold st8
  (repeat wtm_at "z")
  refine new_list (by assumption) (by simp) ?_
  intro R0 s S
  (repeat wtm_at "z")
  refine new_list (by assumption) (by simp) ?_
  intro Rw s S
  (repeat wtm_at "z")
  refine n_new (by assumption) (by assumption) (by wtm_at "zhole") (by wtm_at "zmem") hlo ?_
  intro s S
  obtain ⟨B2, hB2, hR, -, S2⟩ := S.absorb (lc := [(R0, _), (Rw, _)]) (by wtm_at "zpick")
  exact h Rw _ B2 _ hB2 (hR (Rw, _) (by wtm_at "zmem")) (.cons ⟨R0, [], rfl, hR (R0, _) (by wtm_at "zmem"), .nil⟩ .nil) S2
set_option maxHeartbeats 8000000 in
theorem law9 {Du Nm Td D2 D Rw : Addr} {rvs : List Value} (F : LawF w A env L cS cC B) (hRw : At B Rw (IsL rvs)) (hrv : RowsAt B rvs (rowsN 0))
    (S : St B os s ((L, NsA [(S_ "rows", .ref Rw), (S_ "due", .ref Du), (S_ "names", .ref Nm), (S_ "told", .ref Td), (S_ "heap", .ref D2), (S_ "weights", .ref D)]) :: l))
    (h : ∀ Rw rvs B' s', Sub B B' → At B' Rw (IsL rvs) → RowsAt B' rvs (rowsN 4) → St B' os s' ((L, NsA [(S_ "rows", .ref Rw), (S_ "due", .ref Du), (S_ "names", .ref Nm), (S_ "told", .ref Td), (S_ "heap", .ref D2), (S_ "weights", .ref D)]) :: l) → Q .next s') :
    wpAny (model PRG w) A (exec st9.1 env) Q E s := by
  have O := F.eo
  have kb := F.kb
  have G := F.gl
  have C := F.cx
  unfold st9
  (repeat wtm_at "z")
  refine r_range (by assumption) ?_
  intro Rg s S
  refine it_range (by assumption) (by wtm_at "zmem") (by lia) (by decide) (by decide) ?_
  intro I s S
  refine f_for (fun i s => ∃ B' Rw rvs, Sub B B' ∧ At B' Rw (IsL rvs) ∧ RowsAt B' rvs (rowsN i) ∧ St B' os s ((L, NsA [(S_ "rows", .ref Rw), (S_ "due", .ref Du), (S_ "names", .ref Nm), (S_ "told", .ref Td), (S_ "heap", .ref D2), (S_ "weights", .ref D)]) :: (I, IsRI i (4 - i) 1) :: l)) 4
    ⟨B, Rw, rvs, Sub.rfl, hRw, hrv, S.pick2 (lc := [(L, _), (I, _)]) (by wtm_at "zpick") (by wtm_at "zsl")⟩ ?_ ?_
  · rintro i s hi ⟨B1, Rw, rvs, hB, hRw, hrv, S⟩
    have kb1 := kb.sub hB
    obtain ⟨hbd1, hbd2⟩ := rowsN_bd i (by lia)
    refine nx_ri (by assumption) (by wtm_at "zhole") (by lia) ?_
    intro t s S
    (repeat wtm_at "z")
    refine a_comp O (by wtm_at "zmem") (cl := []) (by rfl) (by kernel_rfl!) (by rfl) (fun _ => by with_unfolding_all rfl) (sw_true O (by wtm_at "zmem") (by rfl) (by kernel_rfl!)) ?_
    (repeat wtm_at "z")
    refine it_list (by assumption) (hRw.sub (St.keep (by assumption))) ?_
    intro I1 s S
    refine ⟨_, _, _, S, fun s' Q E hk hq => self_li (S.rd List.mem_cons_self) hk hq, fun Dn Cf s3 hk S4 => ?_⟩
    have O' := O.comp (C := Cf) (lc' := [S_ "row", S_ "part"]) (cl := []) (scope := { kind := ScopeKind.function, names := [(Str.ofString ".0", NameKind.local), (Str.ofString "row", NameKind.local), (Str.ofString "part", NameKind.local)], isGenerator := false, isCoroutine := false }) rfl (by kernel_rfl!) (by rfl)
    clear S
    obtain ⟨lfix, hfix⟩ : ∃ lfix : Led, lfix = ((L, NsA [(Str.ofString "k", .int i t), (S_ "rows", .ref Rw), (S_ "due", .ref Du), (S_ "names", .ref Nm), (S_ "told", .ref Td), (S_ "heap", .ref D2), (S_ "weights", .ref D)]) :: (I, IsRI (i + 1) (4 - i - 1) 1) :: l) := ⟨_, rfl⟩
    refine loop_list (fun m ys lx => ∃ nr : List NR, ys = nrV nr ∧ NrOk nr ∧ nr.map (·.2.2) = ((rowsN i).take m).flatMap ext2 ∧ lx = nrL nr ++ lfix) (step21 (fun _ => by with_unfolding_all rfl)) monoN C.handled O' (by wtm_at "zmem") hRw S4 ⟨[], rfl, (fun r hr => nomatch hr), rfl, by rw [hfix]; rfl⟩ ?_ ?_
    · rintro m ys lx v B' s hv hB' ⟨nr, rfl, hok, hrows, rfl⟩ S
      obtain ⟨r, hr, c, us, rfl, hc, hus⟩ := hrv.get hv
      have hnl : nr.length ≤ 32 := by
        have h1 := congrArg List.length hrows
        rw [List.length_map, List.length_flatMap] at h1
        have h2 : ∀ (X : List (List Bool)), (X.map fun r => (ext2 r).length).sum = 2 * X.length := by
          intro X
          induction X with
          | nil => rfl
          | cons a X ih => simp only [List.map_cons, List.sum_cons, ih, List.length_cons]; show 2 + _ = _; lia
        rw [h2, List.length_take] at h1
        lia
      have hrl : r.length = i := hbd2 r (List.mem_of_getElem? hr)
      have hul : us.length ≤ 4 := by rw [hus.length, List.length_map]; lia
      show BodyN _ _ _ _ _ _ _ _ _
      (repeat wtm_at "z")
      refine new_list (by assumption) (by simp) ?_
      intro P s S
      refine it_list (by assumption) (by wtm_at "zrd") ?_
      intro I2 s S
      rename St B' os _ _ => S
      obtain ⟨B2, hB2, hP, -, S2⟩ := S.absorb (lc := [(P, _)]) (by wtm_at "zpick")
      obtain ⟨pv, hP, hpv⟩ : ∃ pv, At B2 P (IsL pv) ∧ StrsOf pv ([false, true].map part) := ⟨_, hP _ List.mem_cons_self, .cons (.cons .nil)⟩
      clear S
      refine code_startL (S2.rd List.mem_cons_self) ?_
      have S3 := S2.order (lc := [(Cf, _), (Dn, _), (I2, _)]) (by wtm_at "zpick")
      simp only [List.cons_append, List.nil_append] at S3
      clear S2
      refine loop_listK (lo0 := [(S_ "row", .ref c)]) (by kernel_rfl!) (by kernel_rfl!) (by wtm_at "zsub") (fun q ys lx => ∃ nr2 : List NR, ys = nrV nr2 ∧ NrOk nr2 ∧ nr2.map (·.2.2) = ((rowsN i).take m).flatMap ext2 ++ (ext2 r).take q ∧ lx = nrL nr2 ++ lfix) step22 mono0 C.handled O' (by wtm_at "zmem") hP S3
        ⟨nr, rfl, hok, by rw [hrows]; simp, rfl⟩ ?_ ?_
      · rintro q ys lx v B3 s hv2 hB3 ⟨nr2, rfl, hok2, hrows2, rfl⟩ S
        obtain ⟨x, tx, hx, rfl⟩ := strs_at hpv hv2
        obtain ⟨b, hb, rfl⟩ : ∃ b, (ext2 r)[q]? = some (r ++ [b]) ∧ part b = x := by
          rcases (by have := (List.getElem?_eq_some_iff.mp hx).1; simp at this; lia : q = 0 ∨ q = 1) with rfl | rfl
          · simp at hx; exact ⟨false, rfl, hx⟩
          · simp at hx; exact ⟨true, rfl, hx⟩
        have hn2 : nr2.length ≤ 100 := by
          have h1 := congrArg List.length hrows2
          rw [List.length_append, ← hrows, List.length_map, List.length_map, List.length_take] at h1
          have : (ext2 r).length = 2 := rfl
          lia
        show Body0 _ _ _ _ _ _ _ _
        (repeat wtm_at "z")
        refine new_list (by assumption) (by simp) ?_
        intro W s S
        (repeat wtm_at "z")
        refine b_addL (by assumption) (((hc.sub hB').sub (hB2.trans hB3)).sub (St.keep (by assumption))) (by wtm_at "zrd") (by simp; lia) ?_
        intro N s S
        (repeat wtm_at "z")
        refine l_append (by assumption) (by wtm_at "zhole") (by rw [nrV_len]; lia) ?_
        intro s S
        rename St B3 os _ _ => S
        refine ⟨_, _, _, ⟨nr2 ++ [(N, us ++ [.str (part b) tx], r ++ [b])], ?_, ?_, ?_, ?_⟩, ?_, S.pick2 (lc := [(Cf, _), (Dn, _), (N, _)]) (l' := nrL nr2 ++ lfix) (by wtm_at "zpick") (by wtm_at "zsl")⟩
        · unfold nrV; rw [List.map_append]; rfl
        · intro y hy
          rcases List.mem_append.mp hy with h | h
          · exact hok2 y h
          · rw [List.mem_singleton.mp h]
            show StrsOf (us ++ [.str (part b) tx]) ((r ++ [b]).map part)
            rw [List.map_append]; exact hus.app (.cons .nil)
        · rw [List.map_append, hrows2, List.take_add_one, hb, List.append_assoc]; rfl
        · unfold nrL; rw [List.map_append, List.reverse_append]; rfl
        · exact List.forall_mem_singleton.mpr (.tail _ (.head _))
      · rintro ys lx lo s ⟨nr2, rfl, hok2, hrows2, rfl⟩ hlo S
        refine ⟨rfl, _, _, _, ⟨nr2, rfl, hok2, ?_, rfl⟩, S.base hB2⟩
        rw [hrows2, List.take_add_one, hr, List.flatMap_append, hpv.length]
        show _ = _ ++ (ext2 r ++ [])
        rw [List.append_nil]; rfl
    · rintro ys lx lo s ⟨nr, rfl, hok, hrows, rfl⟩ S
      rw [hrv.len, List.take_of_length_le (Nat.le_refl _)] at hrows
      rw [hfix] at S
      refine ⟨rfl, _, _, S, _, _, _, .there (hole_mid (nrL nr)), .inl (Put.there Put.here), fun s'' S'' => ?_⟩
      obtain ⟨B2, hB2, hA, -, S2⟩ := S''.absorbP ((Dn, IsL (nrV nr)) :: nrL nr) _ (List.Perm.refl _)
      have hrows' : RowsAt B2 (nrV nr) (rowsN (i + 1)) := by
        have := rows_of hok (fun p hp => hA p (.tail _ hp))
        rw [hrows] at this; exact this
      have e : (4 : Int) - (i : Int) - 1 = 4 - ((i + 1 : Nat) : Int) := by lia
      rw [e] at S2
      (repeat wtm_at "z")
      exact f_next ⟨B2, Dn, nrV nr, hB.trans hB2, hA _ (.head _), hrows', (S2.names [(S_ "rows", .ref Dn), (S_ "due", .ref Du), (S_ "names", .ref Nm), (S_ "told", .ref Td), (S_ "heap", .ref D2), (S_ "weights", .ref D)] (by wtm_at "zsub") (by kernel_rfl!))⟩
  · rintro s ⟨B1, Rw, rvs, hB, hRw, hrv, S⟩
    refine nx_riE C.handled (by assumption) (by wtm_at "ztake") (by lia) ?_
    intro s S
    exact ⟨rfl, h Rw rvs B1 s hB hRw hrv S⟩
end
/-! text Lf -/
theorem rows4_nodup : (rowsN 4).Nodup := by decide
theorem rows_ne {i j : Nat} (hji : j < i) (hil : i < (rowsN 4).length) (e : (rowsN 4)[j]? = (rowsN 4)[i]?) : False := by
  have h := List.pairwise_iff_getElem.mp rows4_nodup j i (by lia) hil hji
  rw [List.getElem?_eq_getElem (by lia), List.getElem?_eq_getElem hil] at e
  exact h (Option.some.inj e)
theorem hit_all {code : Nat → List Bool} (h0 : ∀ i, code i ≠ []) (hcomp : ∀ r : List Bool, r.length = 4 → ∃ i, i < 5 ∧ code i <+: r) {r : List Bool} (hr : r.length = 4) : hitB (namesOf code) (joinB r) = true := by
  obtain ⟨i, hi, hp⟩ := hcomp r hr
  have hr0 : r ≠ [] := by intro e; rw [e] at hr; simp at hr
  unfold hitB
  rw [List.any_eq_true]
  exact ⟨joinB (code i), List.mem_map.mpr ⟨i, List.mem_range.mpr hi, rfl⟩, (hit_iff (h0 i) hr0).mpr hp⟩
theorem namesOf_len {code : Nat → List Bool} (h8 : ∀ i, (code i).length ≤ 8) : ∀ x ∈ namesOf code, x.length < 2 ^ 20 := by
  intro x hx
  obtain ⟨j, _, rfl⟩ := List.mem_map.mp hx
  have := joinB_len (code j); have := h8 j; lia
section
variable {w : World} {A : Around} {env : Env} {L cS cC sa : Addr} {B : Heap} {os : OsState} {s : Shared} {l : Led} {Q : Flow → Shared → Prop} {E : Value → Shared → Prop} {D D2 Td Dc Nm Du Rw : Addr} {code : Nat → List Bool} {nvs tv dv rvs : List Value}
set_option maxHeartbeats 4000000 in
theorem law10 (F : LawF w A env L cS cC B) (hN : At B Nm (IsL nvs)) (hnv : StrsOf nvs (namesOf code)) (h0 : ∀ i, code i ≠ []) (hpf : ∀ i j, i < 5 → j < 5 → code i <+: code j → i = j)
    (S : St B os s ((L, NsA [(S_ "rows", .ref Rw), (S_ "due", .ref Du), (S_ "names", .ref Nm), (S_ "told", .ref Td), (S_ "heap", .ref D2), (S_ "weights", .ref D)]) :: l))
    (h : ∀ B' (r : Rd) t s', Sub B B' → RdIn w B' r (namesOf code) → St B' os s' ((L, NsA [(S_ "whole", .ref r.x), (S_ "rows", .ref Rw), (S_ "due", .ref Du), (S_ "names", .ref Nm), (S_ "told", .ref Td), (S_ "heap", .ref D2), (S_ "weights", .ref D)]) :: (r.ig, DictG (strKind PRG w) [(K0, .int 1 t)]) :: l) → Q .next s') :
    wpAny (model PRG w) A (exec st10.1 env) Q E s := by
  have O := F.eo
  have kb := F.kb
  have G := F.gl
  have C := F.cx
  unfold st10
  (repeat wtm_at "z")
  refine mk_ignore (k := 10) C kb hN hnv (by rw [namesOf_eq]; simp) (names_nodup h0 hpf) (by rw [namesOf_eq]; simp) (by assumption) ?_
  intro B2 r tr s hB2 R S
  have kb2 := kb.sub hB2
  (repeat wtm_at "z")
  rename St B2 os _ _ => S
  exact h B2 r tr _ hB2 R (S.order (lc := [(L, _)]) (by wtm_at "zpick"))
set_option maxHeartbeats 8000000 in
theorem law11 {r : Rd} {t0 : Tok} (F : LawF w A env L cS cC B) (h0 : ∀ i, code i ≠ []) (h8 : ∀ i, (code i).length ≤ 8) (hcomp : ∀ r : List Bool, r.length = 4 → ∃ i, i < 5 ∧ code i <+: r) (htv : tv.length < 1000) (hdv : dv.length < 1000)
    (hRw : At B Rw (IsL rvs)) (hrv : RowsAt B rvs (rowsN 4)) (R : RdIn w B r (namesOf code))
    (S : St B os s ((L, NsA [(S_ "whole", .ref r.x), (S_ "rows", .ref Rw), (S_ "due", .ref Du), (S_ "names", .ref Nm), (S_ "told", .ref Td), (S_ "heap", .ref D2), (S_ "weights", .ref D)]) :: (Td, IsL tv) :: (Du, IsL dv) :: (r.ig, DictG (strKind PRG w) [(K0, .int 1 t0)]) :: l))
    (h : ∀ B' tx dx s', Sub B B' → TupsAt B' tx (List.replicate 16 (1, true)) → TupsAt B' dx (List.replicate 16 (1, true)) → St B' os s' ((L, NsA [(S_ "names", .ref Nm), (S_ "told", .ref Td), (S_ "due", .ref Du)]) :: (Td, IsL (tv ++ tx)) :: (Du, IsL (dv ++ dx)) :: l) → Q .next s') :
    wpAny (model PRG w) A (exec st11.1 env) Q E s := by
  have O := F.eo
  have kb := F.kb
  have G := F.gl
  have C := F.cx
  have hrl : rvs.length = 16 := by rw [hrv.len]; decide
  unfold st11
  (repeat wtm_at "z")
  refine it_list (by assumption) (hRw.sub (St.keep (by assumption))) ?_
  intro I s S
  refine f_for (fun i s => ∃ B' tx dx kvs, Sub B B' ∧ TupsAt B' tx (List.replicate i (1, true)) ∧ TupsAt B' dx (List.replicate i (1, true)) ∧ kvs.length = i + 1 ∧ (∀ p ∈ kvs, p.1 = K0 ∨ ∃ j q, j < i ∧ (rowsN 4)[j]? = some q ∧ p.1 = joinB q) ∧
      St B' os s ((L, NsA [(S_ "whole", .ref r.x), (S_ "rows", .ref Rw), (S_ "due", .ref Du), (S_ "names", .ref Nm), (S_ "told", .ref Td), (S_ "heap", .ref D2), (S_ "weights", .ref D)]) :: (Td, IsL (tv ++ tx)) :: (Du, IsL (dv ++ dx)) :: (r.ig, DictG (strKind PRG w) kvs) :: (I, IsLI Rw i) :: l)) 16
    ⟨B, [], [], [(K0, .int 1 t0)], Sub.rfl, .nil, .nil, rfl, (by intro p hp; rw [List.mem_singleton.mp hp]; exact .inl rfl), by rw [List.append_nil, List.append_nil]; exact S.pick2 (lc := [(L, _), (Td, _), (Du, _), (r.ig, _), (I, _)]) (by wtm_at "zpick") (by wtm_at "zsl")⟩ ?_ ?_
  · rintro i s hi ⟨B1, tx, dx, kvs, hB, htx, hdx, hkl, hkv, S⟩
    have kb1 := kb.sub hB
    have R1 := R.sub hB
    obtain ⟨v, hv⟩ : ∃ v, rvs[i]? = some v := ⟨rvs[i]'(by lia), List.getElem?_eq_getElem _⟩
    obtain ⟨q, hq, c, us, rfl, hc, hus⟩ := hrv.get hv
    have hq4 : q.length = 4 := (rowsN_bd 4 (by lia)).2 q (List.mem_of_getElem? hq)
    have hq0 : q ≠ [] := by intro e; rw [e] at hq4; simp at hq4
    refine nx_li (by assumption) (by wtm_at "zhole") ((hRw.sub hB).sub (St.keep (by assumption))) hv ?_
    intro s S
    (repeat wtm_at "z")
    refine rm_names R1 kb1 (by assumption) ?_
    (repeat wtm_at "z")
    refine c_joinB (by assumption) ((hc.sub hB).sub (St.keep (by assumption))) hus (by lia) ?_
    intro tj s S
    (repeat wtm_at "z")
    rename St B1 os _ _ => S
    have S1 := S.order (lc := [(r.ig, _)]) (by wtm_at "zpick")
    simp only [List.cons_append, List.nil_append] at S1
    clear S
    refine ask_names (k := 11) C kb1 R1 (by rw [namesOf_eq]; simp) (by rw [namesOf_eq]; simp) (namesOf_len h8) ?_ (by lia) S1 ?_
    · unfold valueAt
      rw [Option.map_eq_none_iff, List.find?_eq_none]
      intro p hp
      rw [decide_eq_true_eq]
      intro e
      rcases hkv p hp with x | ⟨j, q', hj, hq', x⟩
      · exact joinB_ne_K0 hq0 (e.symm.trans x)
      · have hq4' : q'.length = 4 := (rowsN_bd 4 (by lia)).2 q' (List.mem_of_getElem? hq')
        have := joinB_inj (by intro e; rw [e] at hq4'; simp at hq4') hq0 (x.symm.trans e)
        subst this
        have hji : j < i := hj
        have hil : i < (rowsN 4).length := (List.getElem?_eq_some_iff.mp hq).1
        exact rows_ne hji hil (hq'.trans hq.symm)
    intro t1 t2 s S
    clear S1
    rw [hit_all h0 hcomp hq4] at S ⊢
    (repeat wtm_at "z")
    refine m_append (by wtm_at "zrd") ?_
    (repeat wtm_at "z")
    refine c_typeI ?_
    (repeat wtm_at "z")
    refine is_ty ?_
    (repeat wtm_at "z")
    refine new_tup (by assumption) (by simp) ?_
    intro T s S
    (repeat wtm_at "z")
    refine l_append (by assumption) (by wtm_at "zhole") (by rw [List.length_append, htx.len]; simp; lia) ?_
    intro s S
    (repeat wtm_at "z")
    refine m_append (by wtm_at "zrd") ?_
    (repeat wtm_at "z")
    refine new_tup (by assumption) (by simp) ?_
    intro U s S
    (repeat wtm_at "z")
    refine l_append (by assumption) (by wtm_at "zhole") (by rw [List.length_append, hdx.len]; simp; lia) ?_
    intro s S
    (repeat wtm_at "z")
    rename St B1 os _ _ => S
    obtain ⟨B4, hB4, hTU, -, S4⟩ := S.absorb (lc := [(T, _), (U, _)]) (by wtm_at "zpick")
    have hT := hTU _ List.mem_cons_self
    have hU := hTU _ (List.mem_cons_of_mem _ List.mem_cons_self)
    refine f_next ⟨B4, tx ++ [.ref T], dx ++ [.ref U], kvs ++ [(joinB q, .int (if true = true then 1 else 0) t1)], hB.trans hB4, ?_, ?_, ?_, ?_, ?_⟩
    rotate_left 4
    · have S5 := (S4.pick2 (lc := [(L, _), (Td, _), (Du, _), (r.ig, _), (I, _)]) (l' := l) (by wtm_at "zpick") (by wtm_at "zsl")).names [(S_ "whole", .ref r.x), (S_ "rows", .ref Rw), (S_ "due", .ref Du), (S_ "names", .ref Nm), (S_ "told", .ref Td), (S_ "heap", .ref D2), (S_ "weights", .ref D)] (by wtm_at "zsub") (by kernel_rfl!)
      rw [List.append_assoc, List.append_assoc] at S5
      exact S5
    · rw [List.replicate_succ']; exact (htx.sub hB4).snoc hT
    · rw [List.replicate_succ']; exact (hdx.sub hB4).snoc hU
    · simp [hkl]
    · intro p hp
      rcases List.mem_append.mp hp with x | x
      · rcases hkv p x with y | ⟨j, q', hj, y⟩
        · exact .inl y
        · exact .inr ⟨j, q', by lia, y⟩
      · rw [List.mem_singleton.mp x]; exact .inr ⟨i, q, by lia, hq, rfl⟩
  · rintro s ⟨B1, tx, dx, kvs, hB, htx, hdx, hkl, hkv, S⟩
    refine nx_liE C.handled (by assumption) (by wtm_at "ztake") ((hRw.sub hB).sub (St.keep (by assumption))) (List.getElem?_eq_none (by lia)) ?_
    intro s S
    exact ⟨rfl, h B1 tx dx s hB htx hdx ((S.pick2 (lc := [(L, _), (Td, _), (Du, _)]) (l' := l) (by wtm_at "zpick") (by wtm_at "zsl")).names _ (by wtm_at "zsub") (by kernel_rfl!))⟩
end
/-! text Lg -/
noncomputable def sgOf (ns : List Int) : List Nat := (ns.take 6).map (fun x => (x.fmod 5).toNat) ++ [2, 4, 1]
theorem sgOf_lt (ns : List Int) : ∀ k ∈ sgOf ns, k < 5 := by
  intro k hk
  rcases List.mem_append.mp hk with h | h
  · obtain ⟨x, _, rfl⟩ := List.mem_map.mp h
    have := Int.fmod_lt_of_pos x (show (0 : Int) < 5 by lia)
    lia
  · simp at h; lia
theorem sgOf_len (ns : List Int) : (sgOf ns).length < 100 := by simp [sgOf]; lia
theorem sgOf_ints (ns : List Int) : (sgOf ns).map Int.ofNat = (ns.take 6).map (fun x => x.fmod 5) ++ [2, 4, 1] := by
  unfold sgOf
  rw [List.map_append, List.map_map]
  congr 1
  apply List.map_congr_left
  intro x _
  have := Int.fmod_nonneg_of_pos x (show (0 : Int) < 5 by lia)
  show ((x.fmod 5).toNat : Int) = _
  lia
section
variable {w : World} {A : Around} {env : Env} {L cS cC sa : Addr} {B : Heap} {os : OsState} {s : Shared} {l : Led} {Q : Flow → Shared → Prop} {E : Value → Shared → Prop} {D D2 Td Dc Nm Du Rw : Addr} {code : Nat → List Bool} {nvs tv dv rvs svs : List Value} {ns : List Int}
set_option maxHeartbeats 4000000 in
theorem law12 (F : LawF w A env L cS cC B) (hsa : At B sa (LstW svs)) (hI : IntsAre svs ns) (hlen : ns.length ≤ 63)
    (S : St B os s ((L, NsA [(S_ "names", .ref Nm), (S_ "told", .ref Td), (S_ "due", .ref Du)]) :: (cS, CellA (some (.ref sa))) :: l))
    (h : ∀ Sg gvs s', IntsAre gvs ((sgOf ns).map Int.ofNat) → St B os s' ((L, NsA [(S_ "signs", .ref Sg), (S_ "names", .ref Nm), (S_ "told", .ref Td), (S_ "due", .ref Du)]) :: (cS, CellA (some (.ref sa))) :: (Sg, IsL gvs) :: l) → Q .next s') :
    wpAny (model PRG w) A (exec st12.1 env) Q E s := by
  have O := F.eo
  have kb := F.kb
  have G := F.gl
  have C := F.cx
  unfold st12
  (repeat wtm_at "z")
  refine e_comp O (cl := []) (by rfl) (by kernel_rfl!) (by rfl) (fun _ => by with_unfolding_all rfl) ?_
  (repeat wtm_at "z")
  refine sl_tailW (by assumption) (hsa.sub (St.keep (by assumption))) .none (.int _ _) .none (by decide) (by rw [hI.length]; lia) ?_
  intro X s S
  obtain ⟨B2, hB2, hX, -, S2⟩ := S.absorb (lc := [(X, _)]) (by wtm_at "zpick")
  have hX := hX _ List.mem_cons_self
  have hXI : IntsAre (slicePick svs.toArray none (some 6) none).toList (ns.take 6) := slice_ints_uptoW hI (by lia)
  clear S
  refine it_list (by assumption) (hX.sub (St.keep (by assumption))) ?_
  intro I s S
  refine ⟨_, _, _, S, fun s' Q E hk hq => self_li (S.rd List.mem_cons_self) hk hq, fun Dn Cf s3 hk S4 => ?_⟩
  have O' := O.comp (C := Cf) (lc' := [S_ "x"]) (cl := []) (scope := { kind := ScopeKind.function, names := [(Str.ofString ".0", NameKind.local), (Str.ofString "x", NameKind.local)], isGenerator := false, isCoroutine := false }) rfl (by kernel_rfl!) (by rfl)
  clear S S2
  refine loop_list (fun i ys lx => IntsAre ys (((ns.take 6).map (fun x => x.fmod 5)).take i) ∧ lx = _) step1 mono1 C.handled O' (by wtm_at "zmem") hX S4 ⟨.nil, rfl⟩ ?_ ?_
  · rintro i ys lx v B' s hv hB' ⟨hy, rfl⟩ S
    refine Body0.one ?_
    obtain ⟨x, t, hx, rfl⟩ := ints_get hXI hv
    (repeat wtm_at "z")
    refine b_mod (by assumption) (by decide) ?_
    intro t s S
    refine l_append (by assumption) (by wtm_at "zhole") (by rw [hy.length]; simp; lia) ?_
    intro s S
    refine ⟨_, _, _, ⟨?_, rfl⟩, S⟩
    rw [List.take_add_one, List.getElem?_map, hx]
    exact ints_app hy (.cons _ _ .nil)
  · rintro ys lx lo s ⟨hy, rfl⟩ S
    rw [hXI.length, List.take_of_length_le (by simp)] at hy
    refine ⟨rfl, _, _, S, fun s'' S'' => ?_⟩
    clear S
    (repeat wtm_at "z")
    refine new_list (by assumption) (by simp) ?_
    intro Y s S
    (repeat wtm_at "z")
    refine b_addL (by assumption) (by wtm_at "zrd") (by wtm_at "zrd") (by rw [hy.length]; simp; lia) ?_
    intro Sg s S
    (repeat wtm_at "z")
    rename St B2 os _ _ => S
    refine h Sg _ _ ?_ ((S.base hB2).pick2 (lc := [(L, _), (cS, _), (Sg, _)]) (by wtm_at "zpick") (by wtm_at "zsl"))
    rw [sgOf_ints]
    exact ints_app hy (.cons _ _ (.cons _ _ (.cons _ _ .nil)))
end
/-! text Lh -/
noncomputable abbrev RT := Rd × Tok × Str
noncomputable def stL (w : World) (r : RT) : Led := [(r.1.dr, IsL []), (r.1.ms, SetA PRG w [r.2.2]), (r.1.x, InstA 114 r.1.dx), (r.1.dx, AttrA r.1.attrs)]
noncomputable def dgL (w : World) (r : RT) : Addr × Asn := (r.1.ig, DictG (strKind PRG w) [(K0, .int 1 r.2.1)])
noncomputable def rdAll (w : World) (rs : List RT) (l : Led) : Led := rs.flatMap (stL w) ++ (rs.map (dgL w) ++ l)
theorem rd_perm {w : World} {rs : List RT} {n : RT} {l : Led} : (dgL w n :: (stL w n ++ rdAll w rs l)).Perm (rdAll w (rs ++ [n]) l) := by
  have e : rdAll w (rs ++ [n]) l = rs.flatMap (stL w) ++ (stL w n ++ (rs.map (dgL w) ++ dgL w n :: l)) := by
    unfold rdAll
    rw [List.flatMap_append, List.map_append, List.append_assoc, List.append_assoc]
    simp
  rw [e]
  have h1 : (dgL w n :: (stL w n ++ rdAll w rs l)).Perm (stL w n ++ (rs.flatMap (stL w) ++ (rs.map (dgL w) ++ dgL w n :: l))) := by
    have := (List.perm_middle (a := dgL w n) (l₁ := stL w n ++ rs.flatMap (stL w) ++ rs.map (dgL w)) (l₂ := l)).symm
    simp only [List.append_assoc] at this
    unfold rdAll; exact this
  refine h1.trans ?_
  have h2 := List.Perm.append_right (rs.map (dgL w) ++ dgL w n :: l) (List.perm_append_comm (l₁ := stL w n) (l₂ := rs.flatMap (stL w)))
  simp only [List.append_assoc] at h2
  exact h2
section
variable {w : World} {A : Around} {env : Env} {L cS cC sa : Addr} {B : Heap} {os : OsState} {s : Shared} {l : Led} {Q : Flow → Shared → Prop} {E : Value → Shared → Prop} {Td Dc Nm Du Sg : Addr} {code : Nat → List Bool} {nvs : List Value}
set_option maxHeartbeats 8000000 in
theorem law13 (F : LawF w A env L cS cC B) (hN : At B Nm (IsL nvs)) (hnv : StrsOf nvs (namesOf code))
    (S : St B os s ((L, NsA [(S_ "signs", .ref Sg), (S_ "names", .ref Nm), (S_ "told", .ref Td), (S_ "due", .ref Du)]) :: l))
    (h : ∀ Rs (rds : List Rd) ds B' s', Sub B B' → At B' Rs (IsL (rds.map fun r => .ref r.x)) → rds.length = 5 → (∀ i r, rds[i]? = some r → RdIn w B' r [joinB (code i)]) → ds.map (·.1) = rds → (∀ d ∈ ds, ∃ t, d.2 = [(K0, .int 1 t)]) →
      St B' os s' ((L, NsA [(S_ "readers", .ref Rs), (S_ "signs", .ref Sg), (S_ "names", .ref Nm), (S_ "told", .ref Td), (S_ "due", .ref Du)]) :: (dsl w ds ++ l)) → Q .next s') :
    wpAny (model PRG w) A (exec st13.1 env) Q E s := by
  have O := F.eo
  have kb := F.kb
  have G := F.gl
  have C := F.cx
  have hnl : nvs.length = 5 := by rw [hnv.length]; rfl
  unfold st13
  refine a_comp O (by wtm_at "zmem") (cl := []) (by rfl) (by kernel_rfl!) (by rfl) (fun _ => by with_unfolding_all rfl) (sw_true O (by wtm_at "zmem") (by rfl) (by kernel_rfl!)) ?_
  (repeat wtm_at "z")
  refine it_list (by assumption) (hN.sub (St.keep (by assumption))) ?_
  intro I s S
  refine ⟨_, _, _, S, fun s' Q E hk hq => self_li (S.rd List.mem_cons_self) hk hq, fun Dn Cf s3 hk S4 => ?_⟩
  have O' := O.comp (C := Cf) (lc' := [S_ "name"]) (cl := []) (scope := { kind := ScopeKind.function, names := [(Str.ofString ".0", NameKind.local), (Str.ofString "name", NameKind.local), (Str.ofString "_Ignore", NameKind.globalImplicit)], isGenerator := false, isCoroutine := false }) rfl (by kernel_rfl!) (by rfl)
  have G' : Glos w (compEnvC { kind := ScopeKind.function, names := [(Str.ofString ".0", NameKind.local), (Str.ofString "name", NameKind.local), (Str.ofString "_Ignore", NameKind.globalImplicit)], isGenerator := false, isCoroutine := false } [] Cf env) [(S_ "_Ignore", .ref 114)] := glo_comp (by kernel_rfl!)
  clear S
  obtain ⟨lfix, hfix⟩ : ∃ lfix : Led, lfix = ((L, NsA [(S_ "signs", .ref Sg), (S_ "names", .ref Nm), (S_ "told", .ref Td), (S_ "due", .ref Du)]) :: l) := ⟨_, rfl⟩
  refine loop_list (fun i ys lx => ∃ rs : List RT, ys = rs.map (fun r => .ref r.1.x) ∧ (∀ r ∈ rs, r.1.ig ≠ 1) ∧ rs.map (·.2.2) = (namesOf code).take i ∧ lx = rdAll w rs lfix) step1 mono1 C.handled O' (by wtm_at "zmem") hN S4 ⟨[], rfl, (fun r hr => nomatch hr), rfl, by rw [hfix]; rfl⟩ ?_ ?_
  · rintro i ys lx v B' s hv hB' ⟨rs, rfl, hig, hnm, rfl⟩ S
    refine Body0.one ?_
    obtain ⟨x, tx, hx, rfl⟩ := strs_at hnv hv
    have kb' := kb.sub hB'
    have hrl : rs.length ≤ 5 := by
      have := congrArg List.length hnm
      rw [List.length_map, List.length_take] at this
      have : (namesOf code).length = 5 := rfl
      lia
    (repeat wtm_at "z")
    refine new_list (by assumption) (by simp) ?_
    intro W s S
    (repeat wtm_at "z")
    rename St B' os _ _ => S
    refine frame S (Pick.cons (Take.here) Pick.nil) (fun B2 hB2 hf S' => ?_)
    obtain ⟨B3, hB3, hW, -, S5⟩ := S'.absorb (lc := [(W, _)]) (by wtm_at "zpick")
    have hW := hW _ List.mem_cons_self
    refine ignore_spec (k := 10) C ((kb'.sub hB2).sub hB3) hW (.cons .nil) (by simp) (by simp) (by simp) S5 (fun r t s' hrg S'' => ⟨_, S''.base hB3, fun S3 => ?_⟩)
    simp only [List.cons_append, List.nil_append] at S3
    clear S S' S5 S''
    have S6 := S3.order (lc := [(Cf, _), (Dn, _)]) (by wtm_at "zpick")
    simp only [List.cons_append, List.nil_append] at S6
    clear S3
    have S7 := S6.perm ((List.Perm.cons _ (List.Perm.cons _ (rd_perm (n := (r, t, x))))))
    clear S6
    refine l_append (by assumption) (by wtm_at "zhole") (by rw [List.length_map]; lia) ?_
    intro s S
    refine ⟨_, _, _, ⟨rs ++ [(r, t, x)], ?_, ?_, ?_, rfl⟩, S⟩
    · rw [List.map_append]; rfl
    · intro y hy
      rcases List.mem_append.mp hy with q | q
      · exact hig y q
      · rw [List.mem_singleton.mp q]; exact hrg
    · rw [List.map_append, hnm, List.take_add_one, hx]; rfl
  · rintro ys lx lo s ⟨rs, rfl, hig, hnm, rfl⟩ S
    rw [hnl, List.take_of_length_le (by exact Nat.le_refl 5)] at hnm
    rw [hfix] at S
    unfold rdAll at S
    rw [← List.append_assoc] at S
    refine ⟨rfl, _, _, S, _, _, _, .there (hole_mid (rs.flatMap (stL w) ++ rs.map (dgL w))), .inr ⟨notin_of (by kernel_rfl!), rfl⟩, fun s'' S'' => ?_⟩
    obtain ⟨B2, hB2, hA, -, S2⟩ := S''.absorbP ((Dn, IsL (rs.map fun r => .ref r.1.x)) :: rs.flatMap (stL w)) ((L, NsA [(S_ "readers", .ref Dn), (S_ "signs", .ref Sg), (S_ "names", .ref Nm), (S_ "told", .ref Td), (S_ "due", .ref Du)]) :: (rs.map (dgL w) ++ l)) (by
      rw [List.append_assoc]
      refine List.Perm.cons _ ?_
      refine List.Perm.append_left _ ?_
      exact List.perm_middle)
    have hrs5 : rs.length = 5 := by have := congrArg List.length hnm; rw [List.length_map] at this; exact this
    have hin : ∀ r ∈ rs, ∀ p ∈ stL w r, At B2 p.1 p.2 := fun r hr p hp => hA p (.tail _ (List.mem_flatMap.mpr ⟨r, hr, hp⟩))
    refine h Dn (rs.map (·.1)) (rs.map fun r => (r.1, [(K0, .int 1 r.2.1)])) B2 _ hB2 ?_ (by rw [List.length_map]; exact hrs5) ?_ ?_ ?_ ?_
    · rw [List.map_map]; exact hA _ (.head _)
    · intro i r hi
      rw [List.getElem?_map] at hi
      obtain ⟨q, hq, rfl⟩ := Option.map_eq_some_iff.mp hi
      have hi5 : i < 5 := by have := (List.getElem?_eq_some_iff.mp hq).1; lia
      have hqn : q.2.2 = joinB (code i) := by
        have h1 : (rs.map (·.2.2))[i]? = some q.2.2 := by rw [List.getElem?_map, hq]; rfl
        rw [hnm] at h1
        unfold namesOf at h1
        rw [List.getElem?_map, List.getElem?_range hi5] at h1
        exact (Option.some.inj h1).symm
      have hm := hin q (List.mem_of_getElem? hq)
      exact ⟨hm (q.1.x, InstA 114 q.1.dx) (by simp [stL]), hm (q.1.dx, AttrA q.1.attrs) (by simp [stL]), hqn ▸ hm (q.1.ms, SetA PRG w [q.2.2]) (by simp [stL]), hm (q.1.dr, IsL []) (by simp [stL]), hig q (List.mem_of_getElem? hq)⟩
    · rw [List.map_map]; rfl
    · intro d hd
      obtain ⟨q, _, rfl⟩ := List.mem_map.mp hd
      exact ⟨q.2.1, rfl⟩
    · have e : dsl w (rs.map fun r => (r.1, [(K0, .int 1 r.2.1)])) = rs.map (dgL w) := by unfold dsl; rw [List.map_map]; rfl
      rw [e]; exact S2
end
/-! text Li -/
section
variable {w : World} {A : Around} {env : Env} {L cS cC sa : Addr} {B : Heap} {os : OsState} {s : Shared} {l : Led} {Q : Flow → Shared → Prop} {E : Value → Shared → Prop} {Td Dc Nm Du Sg Rs : Addr} {code : Nat → List Bool} {nvs cvs gvs tv dv : List Value} {sg : List Nat}
set_option maxHeartbeats 8000000 in
theorem law14 {rds : List Rd} {ds : List (Rd × List (Str × Value))} (F : LawF w A env L cS cC B) (hC : CodesL B Dc code cvs) (h0 : ∀ i, code i ≠ []) (hpf : ∀ i j, i < 5 → j < 5 → code i <+: code j → i = j)
    (hSg : At B Sg (IsL gvs)) (hgv : IntsAre gvs (sg.map Int.ofNat)) (hsg : ∀ k ∈ sg, k < 5) (hsl : sg.length < 100) (htv : tv.length < 1000)
    (hra : At B Rs (IsL (rds.map fun r => .ref r.x))) (hrl : rds.length = 5) (hrd : ∀ i r, rds[i]? = some r → RdIn w B r [joinB (code i)]) (hds : ds.map (·.1) = rds) (hdk : ∀ d ∈ ds, ∃ t, d.2 = [(K0, .int 1 t)])
    (S : St B os s ((L, NsA [(S_ "readers", .ref Rs), (S_ "signs", .ref Sg), (S_ "names", .ref Nm), (S_ "told", .ref Td), (S_ "due", .ref Du)]) :: (cC, CellA (some (.ref Dc))) :: (Td, IsL tv) :: (dsl w ds ++ l)))
    (h : ∀ B' T tvs s', Sub B B' → TellAt B' tvs sg → At B' T (IsL tvs) → St B' os s' ((L, NsA [(S_ "readers", .ref Rs), (S_ "signs", .ref Sg), (S_ "names", .ref Nm), (S_ "told", .ref Td), (S_ "due", .ref Du)]) :: (cC, CellA (some (.ref Dc))) :: (Td, IsL (tv ++ [.ref T])) :: l) → Q .next s') :
    wpAny (model PRG w) A (exec st14.1 env) Q E s := by
  have O := F.eo
  have kb := F.kb
  have G := F.gl
  have C := F.cx
  have h8 := hC.h8
  have hgl : gvs.length = sg.length := by rw [hgv.length, List.length_map]
  unfold st14
  (repeat wtm_at "z")
  refine m_append (by wtm_at "zrd") ?_
  (repeat wtm_at "z")
  refine e_comp O (cl := [(S_ "codes", cC)]) (by rfl) (by kernel_rfl!) (by rfl) (fun _ => by with_unfolding_all rfl) ?_
  (repeat wtm_at "z")
  refine it_list (by assumption) (hSg.sub (St.keep (by assumption))) ?_
  intro I s S
  refine ⟨_, _, _, S, fun s' Q E hk hq => self_li (S.rd List.mem_cons_self) hk hq, fun Dn Cf s3 hk S4 => ?_⟩
  have O' := O.comp (C := Cf) (lc' := [S_ "k", S_ "part"]) (cl := [(S_ "codes", cC)]) (scope := { kind := ScopeKind.function, names := [(Str.ofString ".0", NameKind.local), (Str.ofString "k", NameKind.local), (Str.ofString "part", NameKind.local), (Str.ofString "codes", NameKind.free)], isGenerator := false, isCoroutine := false }) rfl (by kernel_rfl!) (by simp [freeOk]; decide)
  clear S
  refine loop_list (fun m ys lx => StrsOf ys ((bitsOf code (sg.take m)).map part) ∧ lx = _) (step21 (fun _ => by with_unfolding_all rfl)) monoN C.handled O' (by wtm_at "zmem") hSg S4 ⟨.nil, rfl⟩ ?_ ?_
  · rintro m ys lx v B' s hv hB' ⟨hy, rfl⟩ S
    obtain ⟨kz, tk, hkz, rfl⟩ := ints_get hgv hv
    obtain ⟨kk, hkk, rfl⟩ : ∃ kk : Nat, sg[m]? = some kk ∧ (kk : Int) = kz := by
      rw [List.getElem?_map] at hkz
      obtain ⟨kk, h1, h2⟩ := Option.map_eq_some_iff.mp hkz
      exact ⟨kk, h1, h2⟩
    have hk5 : kk < 5 := hsg kk (List.mem_of_getElem? hkk)
    obtain ⟨cv, hcv, c, us, rfl, hc, hus⟩ := hC.get kk hk5
    have hbl := bits_len h8 (sg.take m)
    have hyl : ys.length ≤ 800 := by rw [hy.length, List.length_map]; rw [List.length_take] at hbl; lia
    have h8k := h8 kk
    have hul : us.length = (code kk).length := by rw [hus.length, List.length_map]
    show BodyN _ _ _ _ _ _ _ _ _
    (repeat wtm_at "z")
    refine g_item ((hC.at_.sub hB').sub (St.keep (by assumption))) (by lia) (by lia) (v := .ref c) (by simpa using hcv) ?_
    refine it_list (by assumption) ((hc.sub hB').sub (St.keep (by assumption))) ?_
    intro I2 s S
    rename St B' os _ _ => S
    refine code_startL (S.rd List.mem_cons_self) ?_
    have S3 := S.order (lc := [(Cf, _), (Dn, _), (I2, _)]) (by wtm_at "zpick")
    simp only [List.cons_append, List.nil_append] at S3
    clear S
    refine loop_list (fun q ys lx => StrsOf ys ((bitsOf code (sg.take m) ++ (code kk).take q).map part) ∧ lx = _) step22 mono0 C.handled O' (by wtm_at "zmem") (hc.sub hB') S3 ⟨by rw [List.take_zero, List.append_nil]; exact hy, rfl⟩ ?_ ?_
    · rintro q ys lx v B3 s hv2 hB3 ⟨hy2, rfl⟩ S
      obtain ⟨x, tx, hx, rfl⟩ := strs_at hus hv2
      show Body0 _ _ _ _ _ _ _ _
      (repeat wtm_at "z")
      refine l_append (by assumption) (by wtm_at "zhole") (by rw [hy2.length, List.length_map, List.length_append, List.length_take]; rw [List.length_take] at hbl; lia) ?_
      intro s S
      refine ⟨_, _, _, ⟨?_, rfl⟩, S⟩
      rw [List.getElem?_map] at hx
      obtain ⟨b, hb, rfl⟩ := Option.map_eq_some_iff.mp hx
      rw [List.take_add_one, hb, ← List.append_assoc, List.map_append]
      exact hy2.app (.cons .nil)
    · rintro ys lx lo s ⟨hy2, rfl⟩ S
      refine ⟨rfl, _, _, _, ⟨?_, rfl⟩, S⟩
      rw [hul, List.take_of_length_le (Nat.le_refl _)] at hy2
      have e : bitsOf code (sg.take (m + 1)) = bitsOf code (sg.take m) ++ code kk := by
        unfold bitsOf
        rw [List.take_add_one, hkk, List.flatMap_append]
        simp
      rw [e]; exact hy2
  · rintro ys lx lo s ⟨hy, rfl⟩ S
    rw [hgl, List.take_of_length_le (Nat.le_refl _)] at hy
    refine ⟨rfl, _, _, S, fun s'' S'' => ?_⟩
    clear S
    (repeat wtm_at "z")
    obtain ⟨B2, hB2, hD, -, S2⟩ := S''.absorb (lc := [(Dn, _)]) (by wtm_at "zpick")
    have hD := hD _ List.mem_cons_self
    clear S''
    have S3 := S2.perm (l' := dsl w ds ++ ((L, NsA [(S_ "readers", .ref Rs), (S_ "signs", .ref Sg), (S_ "names", .ref Nm), (S_ "told", .ref Td), (S_ "due", .ref Du)]) :: (cC, CellA (some (.ref Dc))) :: (Td, IsL tv) :: l)) (by
      have := List.perm_append_comm_assoc [(L, NsA [(S_ "readers", .ref Rs), (S_ "signs", .ref Sg), (S_ "names", .ref Nm), (S_ "told", .ref Td), (S_ "due", .ref Du)]), (cC, CellA (some (.ref Dc))), (Td, IsL tv)] (dsl w ds) l
      exact this)
    clear S2
    have kb2 := kb.sub hB2
    refine read_spec (k := 8) C kb2 (hra.sub hB2) hrl (fun i r hr => (hrd i r hr).sub hB2) (hC.at_.sub hB2) (fun i hi => let ⟨v, h1, h2⟩ := hC.get i hi; ⟨v, h1, h2.sub hB2⟩) h0 h8 hpf hD hy hsg hsl hds ?_ S3 ?_
    · intro d hd
      obtain ⟨t, e⟩ := hdk d hd
      rw [e]
      exact ⟨fun p hp => by rw [List.mem_singleton.mp hp]; exact .inl rfl, Nat.le_refl _⟩
    intro T B3 tvs s hB3 hT S
    clear S3
    have kb3 := kb2.sub hB3
    obtain ⟨B4, hB4, hTl, -, S4⟩ := S.absorb (lc := [(T, _)]) (by wtm_at "zpick")
    have hTl := hTl _ List.mem_cons_self
    clear S
    (repeat wtm_at "z")
    refine l_append (by assumption) (by wtm_at "zhole") (by lia) ?_
    intro s S
    (repeat wtm_at "z")
    exact h B4 T tvs _ ((hB2.trans hB3).trans hB4) (hT.sub hB4) hTl S
set_option maxHeartbeats 8000000 in
theorem law15 (F : LawF w A env L cS cC B) (hSg : At B Sg (IsL gvs)) (hgv : IntsAre gvs (sg.map Int.ofNat)) (hsl : sg.length < 100) (hdv : dv.length < 1000)
    (S : St B os s ((L, NsA [(S_ "readers", .ref Rs), (S_ "signs", .ref Sg), (S_ "names", .ref Nm), (S_ "told", .ref Td), (S_ "due", .ref Du)]) :: (Du, IsL dv) :: l))
    (h : ∀ B' T tvs s', Sub B B' → TellAt B' tvs sg → At B' T (IsL tvs) → St B' os s' ((L, NsA [(S_ "readers", .ref Rs), (S_ "signs", .ref Sg), (S_ "names", .ref Nm), (S_ "told", .ref Td), (S_ "due", .ref Du)]) :: (Du, IsL (dv ++ [.ref T])) :: l) → Q .next s') :
    wpAny (model PRG w) A (exec st15.1 env) Q E s := by
  have O := F.eo
  have kb := F.kb
  have G := F.gl
  have C := F.cx
  have hgl : gvs.length = sg.length := by rw [hgv.length, List.length_map]
  unfold st15
  (repeat wtm_at "z")
  refine m_append (by wtm_at "zrd") ?_
  (repeat wtm_at "z")
  refine e_comp O (cl := []) (by rfl) (by kernel_rfl!) (by rfl) (fun _ => by with_unfolding_all rfl) ?_
  (repeat wtm_at "z")
  refine it_list (by assumption) (hSg.sub (St.keep (by assumption))) ?_
  intro I s S
  refine ⟨_, _, _, S, fun s' Q E hk hq => self_li (S.rd List.mem_cons_self) hk hq, fun Dn Cf s3 hk S4 => ?_⟩
  have O' := O.comp (C := Cf) (lc' := [S_ "k"]) (cl := []) (scope := { kind := ScopeKind.function, names := [(Str.ofString ".0", NameKind.local), (Str.ofString "k", NameKind.local)], isGenerator := false, isCoroutine := false }) rfl (by kernel_rfl!) (by rfl)
  clear S
  obtain ⟨lfix, hfix⟩ : ∃ lfix : Led, lfix = ((L, NsA [(S_ "readers", .ref Rs), (S_ "signs", .ref Sg), (S_ "names", .ref Nm), (S_ "told", .ref Td), (S_ "due", .ref Du)]) :: (Du, IsL dv) :: l) := ⟨_, rfl⟩
  refine loop_list (fun m ys lx => ∃ tl : List (Addr × Nat × Tok), ys = tl.map (fun p => .ref p.1) ∧ tl.map (·.2.1) = sg.take m ∧ lx = (tl.map fun p => (p.1, IsL [.int p.2.1 p.2.2])).reverse ++ lfix) step1 mono1 C.handled O' (by wtm_at "zmem") hSg S4 ⟨[], rfl, rfl, by rw [hfix]; rfl⟩ ?_ ?_
  · rintro m ys lx v B' s hv hB' ⟨tl, rfl, htl, rfl⟩ S
    refine Body0.one ?_
    obtain ⟨kz, tk, hkz, rfl⟩ := ints_get hgv hv
    obtain ⟨kk, hkk, rfl⟩ : ∃ kk : Nat, sg[m]? = some kk ∧ (kk : Int) = kz := by
      rw [List.getElem?_map] at hkz
      obtain ⟨kk, h1, h2⟩ := Option.map_eq_some_iff.mp hkz
      exact ⟨kk, h1, h2⟩
    have htl2 : tl.length < 100 := by
      have := congrArg List.length htl
      rw [List.length_map, List.length_take] at this; lia
    (repeat wtm_at "z")
    refine new_list (by assumption) (by simp) ?_
    intro T s S
    refine l_append (by assumption) (by wtm_at "zhole") (by rw [List.length_map]; lia) ?_
    intro s S
    rename St B' os _ _ => S
    refine ⟨_, _, _, ⟨tl ++ [(T, kk, tk)], ?_, ?_, ?_⟩, S.order (lc := [(Cf, _), (Dn, _), (T, _)]) (by wtm_at "zpick")⟩
    · rw [List.map_append]; rfl
    · rw [List.map_append, htl, List.take_add_one, hkk]; rfl
    · rw [List.map_append, List.reverse_append]; rfl
  · rintro ys lx lo s ⟨tl, rfl, htl, rfl⟩ S
    rw [hgl, List.take_of_length_le (Nat.le_refl _)] at htl
    refine ⟨rfl, _, _, S, fun s'' S'' => ?_⟩
    clear S
    obtain ⟨B2, hB2, hA, -, S2⟩ := S''.absorbP ((Dn, IsL (tl.map fun p => .ref p.1)) :: (tl.map fun p => (p.1, IsL [.int p.2.1 p.2.2])).reverse) lfix (List.Perm.refl _)
    have hT : TellAt B2 (tl.map fun p => .ref p.1) sg := by
      rw [← htl]
      have hA' : ∀ p ∈ tl, At B2 p.1 (IsL [.int p.2.1 p.2.2]) := fun p hp => hA (p.1, IsL [.int p.2.1 p.2.2]) (.tail _ (List.mem_reverse.mpr (List.mem_map_of_mem (f := fun p : Addr × Nat × Tok => (p.1, IsL [.int p.2.1 p.2.2])) hp)))
      clear hA htl S''
      induction tl with
      | nil => exact .nil
      | cons p tl ih => exact .cons (hA' p (.head _)) (ih fun q hq => hA' q (.tail _ hq))
    have hDn := hA _ (.head _)
    clear S''
    rw [hfix] at S2
    have kb2 := kb.sub hB2
    (repeat wtm_at "z")
    refine l_append (by assumption) (by wtm_at "zhole") (by lia) ?_
    intro s S
    (repeat wtm_at "z")
    exact h B2 Dn _ _ hB2 hT hDn S
end
/-! text Lj -/
theorem canAll : ∀ {xs : List PyData}, (∀ d ∈ xs, d.canLay0 = true) → PyData.canLayAll0 xs = true
  | [], _ => rfl
  | x :: r, h => by
    show (PyData.canLay0 x && PyData.canLayAll0 r) = true
    rw [canAll (xs := r) fun y hy => h y (.tail _ hy), Bool.and_true]; exact h x (.head _)
theorem depthAll_le {n : Nat} : ∀ {xs : List PyData}, (∀ d ∈ xs, d.depth ≤ n) → PyData.depthAll xs ≤ n
  | [], _ => Nat.zero_le _
  | x :: r, h => by
    have h1 := depthAll_le (xs := r) fun y hy => h y (.tail _ hy)
    have h2 := h x (.head _)
    simp only [PyData.depthAll]; lia
theorem reads_app {hp : Heap} : ∀ {vs us : List Value} {xs ys : List PyData} {as bs : List Addr}, ReadsAll hp vs xs as → ReadsAll hp us ys bs → ∃ cs, ReadsAll hp (vs ++ us) (xs ++ ys) cs := by
  intro vs
  induction vs with
  | nil => intro us xs ys as bs a b; cases a; exact ⟨bs, b⟩
  | cons v vs ih =>
    intro us xs ys as bs a b
    cases a with
    | cons h r => obtain ⟨cs, hc⟩ := ih r b; exact ⟨_, .cons h hc⟩
noncomputable abbrev dTup (p : Int × Bool) : PyData := .tuple [.int p.1, .bool p.2]
noncomputable abbrev dOne (k : Nat) : PyData := .list [.int k]
theorem TupsAt.reads {B : Heap} {vs : List Value} {ds : List (Int × Bool)} (x : TupsAt B vs ds) : ∃ as, ReadsAll B vs (ds.map dTup) as := by
  induction x with
  | nil => exact ⟨_, .nil⟩
  | cons h _ ih =>
    obtain ⟨as, ih⟩ := ih
    obtain ⟨o, ho, n, rfl⟩ := h
    exact ⟨_, .cons (.tuple ho rfl rfl (.cons (.int _ _) (.cons (.bool _) .nil))) ih⟩
theorem TellAt.reads {B : Heap} {vs : List Value} {sg : List Nat} (x : TellAt B vs sg) : ∃ as, ReadsAll B vs (sg.map dOne) as := by
  induction x with
  | nil => exact ⟨_, .nil⟩
  | cons h _ ih =>
    obtain ⟨as, ih⟩ := ih
    obtain ⟨o, ho, n, rfl⟩ := h
    exact ⟨_, .cons (.list ho rfl rfl (.cons (.int _ _) .nil)) ih⟩
noncomputable def resOf (c : Int) (sg : List Nat) : List PyData := [.none, .int c] ++ (List.replicate 5 ((0 : Int), true)).map dTup ++ (List.replicate 16 ((1 : Int), true)).map dTup ++ [.list (sg.map dOne)]
theorem resOf_mem {c : Int} {sg : List Nat} {d : PyData} (h : d ∈ resOf c sg) : d = .none ∨ d = .int c ∨ d = dTup (0, true) ∨ d = dTup (1, true) ∨ d = .list (sg.map dOne) := by
  unfold resOf at h
  simp only [List.mem_append, List.mem_cons, List.not_mem_nil, or_false, List.mem_map] at h
  rcases h with (((h | h) | ⟨p, hp, rfl⟩) | ⟨p, hp, rfl⟩) | h
  · exact .inl h
  · exact .inr (.inl h)
  · rw [List.eq_of_mem_replicate hp]; exact .inr (.inr (.inl rfl))
  · rw [List.eq_of_mem_replicate hp]; exact .inr (.inr (.inr (.inl rfl)))
  · exact .inr (.inr (.inr (.inr h)))
theorem resOf_can (c : Int) (sg : List Nat) : PyData.canLay0 (.list (resOf c sg)) = true := by
  have h1 : PyData.canLayAll0 (sg.map dOne) = true := canAll fun d hd => by
    obtain ⟨k, _, rfl⟩ := List.mem_map.mp hd
    simp [PyData.canLay0, PyData.canLayAll0]
  have : PyData.canLayAll0 (resOf c sg) = true := canAll fun d hd => by
    rcases resOf_mem hd with rfl | rfl | rfl | rfl | rfl <;> simp [PyData.canLay0, PyData.canLayAll0, h1]
  simpa [PyData.canLay0] using this
theorem resOf_shaped (c : Int) (sg : List Nat) : PySem.SeqAt.shaped (.list (resOf c sg)) = true := by
  unfold PySem.SeqAt.shaped
  rw [resOf_can, Bool.true_and, decide_eq_true_eq]
  have h1 : PyData.depthAll (sg.map dOne) ≤ 2 := depthAll_le fun d hd => by
    obtain ⟨k, _, rfl⟩ := List.mem_map.mp hd
    simp [PyData.depth, PyData.depthAll]
  have h2 : PyData.depthAll (resOf c sg) ≤ 4 := depthAll_le fun d hd => by
    rcases resOf_mem hd with rfl | rfl | rfl | rfl | rfl <;> simp [PyData.depth, PyData.depthAll] <;> lia
  simp only [PyData.depth]; lia
theorem res_reads {B : Heap} {tx tx2 tvs : List Value} {T : Addr} {t : Tok} {c : Int} {sg : List Nat} (h1 : TupsAt B tx (List.replicate 5 (0, true))) (h2 : TupsAt B tx2 (List.replicate 16 (1, true))) (h3 : TellAt B tvs sg) (h4 : At B T (IsL tvs)) :
    ∃ as, ReadsAll B ([.none, .int c t] ++ tx ++ tx2 ++ [.ref T]) (resOf c sg) as := by
  obtain ⟨a1, r1⟩ := h1.reads
  obtain ⟨a2, r2⟩ := h2.reads
  obtain ⟨a3, r3⟩ := h3.reads
  obtain ⟨o, ho, n, rfl⟩ := h4
  have r0 : ReadsAll B [.none, .int c t] [.none, .int c] _ := .cons .none (.cons (.int _ _) .nil)
  obtain ⟨b1, q1⟩ := reads_app r0 r1
  obtain ⟨b2, q2⟩ := reads_app q1 r2
  exact reads_app q2 (.cons (.list ho rfl rfl r3) .nil)
section
variable {w : World} {A : Around} {env : Env} {L cS cC sa : Addr} {B : Heap} {os : OsState} {s : Shared} {l : Led} {Q : Flow → Shared → Prop} {E : Value → Shared → Prop} {Td Dc Nm Du Sg Rs : Addr} {tv dv : List Value} {sg : List Nat} {c : Int} {as bs : List Addr}
set_option maxHeartbeats 4000000 in
theorem law16 (F : LawF w A env L cS cC B) (ht : ReadsAll B tv (resOf c sg) as) (hd : ReadsAll B dv (resOf c sg) bs)
    (S : St B os s ((L, NsA [(S_ "readers", .ref Rs), (S_ "signs", .ref Sg), (S_ "names", .ref Nm), (S_ "told", .ref Td), (S_ "due", .ref Du)]) :: (Td, IsL tv) :: (Du, IsL dv) :: l))
    (h : ∀ s' l', St B os s' l' → Q (.ret (.bool true)) s') :
    wpAny (model PRG w) A (exec st16.1 env) Q E s := by
  have O := F.eo
  have kb := F.kb
  have G := F.gl
  have C := F.cx
  unfold st16
  (repeat wtm_at "z")
  obtain ⟨o1, ho1, n1, rfl⟩ : At s.heap Td (IsL tv) := S.rd (by wtm_at "zmem")
  obtain ⟨o2, ho2, n2, rfl⟩ : At s.heap Du (IsL dv) := S.rd (by wtm_at "zmem")
  refine eq_dataH (da := .list (resOf c sg)) (db := .list (resOf c sg)) (.list ho1 rfl rfl (ReadsAll.keeps S.keep ht)) (.list ho2 rfl rfl (ReadsAll.keeps S.keep hd)) (resOf_shaped c sg) (resOf_shaped c sg) (by have := C.units; lia) ?_
  rw [PySem.SeqAt.eqv_refl _ (resOf_can c sg)]
  (repeat wtm_at "z")
  exact h _ _ S
end
/-! text Lk -/
/-- what the plain law must say of the weights -/
noncomputable def PlainLaw (ws : List Int) : Prop := ∀ i0 i1 i2 i3 i4 j0 j1 j2 j3 j4 : It, [i0, i1, i2, i3, i4].map (·.w) = ws → [i0, i1, i2, i3, i4].map (·.k) = [0, 1, 2, 3, 4] → siftup i1 [i0, i1, i2, i3, i4] 1 = [j0, j1, j2, j3, j4] →
  ∀ its prs, Run (siftup j0 [j0, j1, j2, j3, j4] 0) its prs → its.length = 1 → ∃ cds, expandT prs 4 = some cds ∧ (∀ k : Nat, k < 5 → (vAt cds k).isSome = true) ∧
    ∀ code : Nat → List Bool, (∀ k : Nat, k < 5 → vAt cds k = some (code k)) → (∀ k, k < 5 → code k ≠ []) ∧ (∀ k, k < 5 → (code k).length ≤ 8) ∧ (∀ i j, i < 5 → j < 5 → code i <+: code j → i = j) ∧
      (∀ r : List Bool, r.length = 4 → ∃ i, i < 5 ∧ code i <+: r) ∧ ∀ (srt : List Int) (M : Int), srt.Perm ws → srt.Pairwise (· ≤ ·) → M ∈ shapes.map (dot srt.reverse) → (∀ c ∈ shapes.map (dot srt.reverse), M ≤ c) → costOf ws code = M
theorem sorted_ex (ws : List Int) : ∃ srt : List Int, srt.Perm ws ∧ srt.Pairwise (· ≤ ·) := by
  refine ⟨ws.mergeSort (fun a b => decide (a ≤ b)), List.mergeSort_perm _ _, ?_⟩
  have := List.pairwise_mergeSort (le := fun a b : Int => decide (a ≤ b)) (by intro a b c h1 h2; simp at *; lia) (by intro a b; simp; lia) ws
  exact this.imp (by intro a b h; simpa using h)
section
variable {w : World} {A : Around} {env : Env} {L cS cC sa : Addr} {B : Heap} {os : OsState} {s : Shared} {svs : List Value} {ns : List Int} {Q : Flow → Shared → Prop} {E : Value → Shared → Prop}
noncomputable abbrev lawList : List Stmt := [st0.1, st1.1, st2.1, st3.1, st4.1, st5.1, st6.1, st7.1, st8.1, st9.1, st10.1, st11.1, st12.1, st13.1, st14.1, st15.1, st16.1]
set_option maxHeartbeats 4000000 in
theorem law_all (F : LawF w A env L cS cC B) (hsa : At B sa (LstW svs)) (hI : IntsAre svs ns) (hlen : ns.length ≤ 63) (PL : PlainLaw (wgts ns))
    (S : St B os s [(L, NsA []), (cS, CellA (some (.ref sa))), (cC, CellA none)]) (h : ∀ s' l', St B os s' l' → Q (.ret (.bool true)) s') :
    wpAny (model PRG w) A (execs lawList env) Q E s := by
  refine e_seq (law0 F hsa hI hlen S fun D vs s1 hvs S1 => ?_)
  obtain ⟨B1, hB1, hD, -, S1⟩ := S1.absorb (lc := [(D, _)]) (by wtm_at "zpick")
  have hD := hD _ List.mem_cons_self
  have F1 := F.sub hB1
  refine k_next (e_seq (law1 F1 hD hvs S1 rfl fun D2 its B2 s2 hB2 hin hw hk S2 => ?_))
  have F2 := F1.sub hB2
  obtain ⟨i0, i1, i2, i3, i4, rfl⟩ : ∃ i0 i1 i2 i3 i4, its = [i0, i1, i2, i3, i4] := by
    have hl := congrArg List.length hk
    rw [List.length_map] at hl
    exact list5 hl
  refine k_next (e_seq (law2 F2 hin S2 fun Td j0 j1 j2 j3 j4 s3 hj S3 => ?_))
  have hjin : ∀ i ∈ [j0, j1, j2, j3, j4], i.In B2 := by rw [← hj]; exact siftup_in 1 (hin i1 (by simp)) hin
  have hin0 : ∀ i ∈ siftup j0 [j0, j1, j2, j3, j4] 0, i.In B2 := siftup_in 0 (hjin j0 (by simp)) hjin
  have hlen0 : (siftup j0 [j0, j1, j2, j3, j4] 0).length = 5 := by rw [siftup_len]; rfl
  have PL' := PL i0 i1 i2 i3 i4 j0 j1 j2 j3 j4 hw (by rw [hk]; rfl) hj
  have S3' := S3.order (lc := [(L, _), (D2, _), (cC, _)]) (by wtm_at "zpick")
  refine k_next (e_seq (law3 F2 hin0 hlen0 (fun its prs hR h1 => let ⟨cds, h2, h3, _⟩ := PL' its prs hR h1; ⟨cds, h2, h3⟩) S3' fun Dc B3 its prs cds kvs cvs s4 hB3 hR h1 hcd hCo hcl hcv S4 => ?_))
  have F3 := F2.sub hB3
  obtain ⟨cds', hcd', hsome, hcode⟩ := PL' its prs hR h1
  rw [hcd] at hcd'; cases hcd'
  obtain ⟨code, hce, hcd5⟩ : ∃ code : Nat → List Bool, (∀ k : Nat, k < 5 → vAt cds k = some (code k)) ∧ ∀ k, ¬ k < 5 → code k = [false] :=
    ⟨fun k => if k < 5 then (vAt cds (k : Int)).getD [] else [false], fun k hk => by
      obtain ⟨c, hc⟩ := Option.isSome_iff_exists.mp (hsome k hk)
      show vAt cds (k : Int) = some (if k < 5 then (vAt cds (k : Int)).getD [] else [false])
      rw [if_pos hk, hc]; rfl, fun k hk => if_neg hk⟩
  obtain ⟨hc0, hc8, hpf, hcomp, hcost⟩ := hcode code hce
  have h0 : ∀ i, code i ≠ [] := fun i => by
    by_cases hi : i < 5
    · exact hc0 i hi
    · rw [hcd5 i hi]; simp
  have h8 : ∀ i, (code i).length ≤ 8 := fun i => by
    by_cases hi : i < 5
    · exact hc8 i hi
    · rw [hcd5 i hi]; simp
  obtain ⟨B4, hB4, hDc, -, S4⟩ := S4.absorb (lc := [(Dc, _)]) (by wtm_at "zpick")
  have hDc := hDc _ List.mem_cons_self
  have F4 := F3.sub hB4
  have hC : CodesL B4 Dc code cvs := ⟨hDc, hcl, fun i hi => by
    obtain ⟨v, h1, h2⟩ := hcv i hi
    obtain ⟨v', h3, h4⟩ := hCo.vAt (hce i hi)
    rw [h2] at h3; cases h3
    exact ⟨v, h1, h4.sub hB4⟩, h8⟩
  have hD4 := ((hD.sub hB2).sub hB3).sub hB4
  refine k_next (e_seq (law4 F4 hC S4 fun Nm nvs s5 hnv S5 => ?_))
  obtain ⟨B5, hB5, hN, -, S5⟩ := S5.absorb (lc := [(Nm, _)]) (by wtm_at "zpick")
  have hN := hN _ List.mem_cons_self
  have F5 := F4.sub hB5
  have S5' := S5.order (lc := [(L, _), (cC, _), (Td, _)]) (by wtm_at "zpick")
  refine k_next (e_seq (law5 F5 (hC.sub hB5) (hD4.sub hB5) hvs rfl S5' fun tc s6 S6 => ?_))
  obtain ⟨srt, hp, hs⟩ := sorted_ex (wgts ns)
  refine k_next (e_seq (law6 F5 (hD4.sub hB5) hvs rfl hp hs S6 fun Du M tm s7 hm1 hm2 S7 => ?_))
  have hcM := hcost srt M hp hs hm1 hm2
  have S7' := S7.order (lc := [(L, _), (Td, _), (Du, _)]) (by wtm_at "zpick")
  refine k_next (e_seq (law7 F5 hN hnv h0 h8 hpf (by simp) (by simp) S7' fun B6 tx dx s8 hB6 htx hdx S8 => ?_))
  have F6 := F5.sub hB6
  refine k_next (e_seq (law8 F6 (by kernel_rfl!) S8 fun Rw rvs B7 s9 hB7 hRw hrv S9 => ?_))
  have F7 := F6.sub hB7
  refine k_next (e_seq (law9 F7 hRw hrv S9 fun Rw rvs B8 s10 hB8 hRw hrv S10 => ?_))
  have F8 := F7.sub hB8
  have hN8 := ((hN.sub hB6).sub hB7).sub hB8
  refine k_next (e_seq (law10 F8 hN8 hnv h0 hpf S10 fun B9 r tr s11 hB9 R S11 => ?_))
  have F9 := F8.sub hB9
  have S11' := S11.order (lc := [(L, _), (Td, _), (Du, _), (r.ig, _)]) (by wtm_at "zpick")
  refine k_next (e_seq (law11 F9 h0 h8 hcomp (by rw [List.length_append, htx.len]; simp) (by rw [List.length_append, hdx.len]; simp) (hRw.sub hB9) (hrv.sub hB9) R S11' fun B10 tx2 dx2 s12 hB10 htx2 hdx2 S12 => ?_))
  have F10 := F9.sub hB10
  have hBa : Sub B B10 := hB1.trans (hB2.trans (hB3.trans (hB4.trans (hB5.trans (hB6.trans (hB7.trans (hB8.trans (hB9.trans hB10))))))))
  have S12' := S12.order (lc := [(L, _), (cS, _)]) (by wtm_at "zpick")
  refine k_next (e_seq (law12 F10 (hsa.sub hBa) hI hlen S12' fun Sg gvs s13 hgv S13 => ?_))
  obtain ⟨B11, hB11, hSg, -, S13⟩ := S13.absorb (lc := [(Sg, _)]) (by wtm_at "zpick")
  have hSg := hSg _ List.mem_cons_self
  have F11 := F10.sub hB11
  have hN11 := ((hN8.sub hB9).sub hB10).sub hB11
  refine k_next (e_seq (law13 F11 hN11 hnv S13 fun Rs rds ds B12 s14 hB12 hRs hrl hrd hds hdk S14 => ?_))
  have F12 := F11.sub hB12
  have hC12 := (((((((hC.sub hB5).sub hB6).sub hB7).sub hB8).sub hB9).sub hB10).sub hB11).sub hB12
  have S14' := S14.perm (List.Perm.cons _ ((List.Perm.append_left (dsl w ds) (Pick.perm (lc := [(cC, _), (Td, _)]) (lf := [(cS, _), (Du, _)]) (by simp only [List.nil_append, List.append_eq]; wtm_at "zpick"))).trans (List.perm_append_comm_assoc (dsl w ds) _ _)))
  refine k_next (e_seq (law14 F12 hC12 h0 hpf (hSg.sub hB12) hgv (sgOf_lt ns) (sgOf_len ns) (by rw [List.length_append, List.length_append, htx.len, htx2.len]; simp) hRs hrl hrd hds hdk S14' fun B13 T tvs s15 hB13 hT hTl S15 => ?_))
  have F13 := F12.sub hB13
  have S15' := S15.order (lc := [(L, _), (Du, _)]) (by wtm_at "zpick")
  refine k_next (e_seq (law15 F13 ((hSg.sub hB12).sub hB13) hgv (sgOf_len ns) (by rw [List.length_append, List.length_append, hdx.len, hdx2.len]; simp) S15' fun B14 T2 dvs s16 hB14 hT2 hT2l S16 => ?_))
  have F14 := F13.sub hB14
  have S16' := S16.order (lc := [(L, _), (Td, _), (Du, _)]) (by wtm_at "zpick")
  have hbb := hB11.trans (hB12.trans (hB13.trans hB14))
  have hbx := (hB7.trans (hB8.trans (hB9.trans hB10))).trans hbb
  rw [hcM] at S16'
  obtain ⟨a1, r1⟩ := res_reads (t := tc) (c := M) (htx.sub hbx) (htx2.sub hbb) (hT.sub hB14) (hTl.sub hB14)
  obtain ⟨a2, r2⟩ := res_reads (t := tm) (c := M) (hdx.sub hbx) (hdx2.sub hbb) hT2 hT2l
  refine k_next (e_seq (law16 F14 r1 r2 S16' fun s' l' S17 => ?_))
  exact k_ret (h s' l' ((S17.base (hBa.trans hbb))))
end
/-! text Pl -/
theorem sd1 (n b : It) (r : List It) : sdown n 0 1 1 (b :: n :: r) = if n.lt b = true then n :: b :: r else b :: n :: r := rfl
theorem sd2 (n b c : It) (r : List It) : sdown n 0 2 2 (c :: b :: n :: r) = if n.lt c = true then n :: b :: c :: r else c :: b :: n :: r := rfl
theorem sd3 (n b c d : It) (r : List It) : sdown n 0 3 3 (b :: d :: c :: n :: r) = if n.lt d = true then (if n.lt b = true then n :: b :: c :: d :: r else b :: n :: c :: d :: r) else b :: d :: c :: n :: r := rfl
theorem sd4 (n b c d e : It) (r : List It) : sdown n 0 4 4 (b :: e :: c :: d :: n :: r) = if n.lt e = true then (if n.lt b = true then n :: b :: c :: d :: e :: r else b :: n :: c :: d :: e :: r) else b :: e :: c :: d :: n :: r := rfl
theorem sd13 (n a c d : It) (r : List It) : sdown n 1 3 3 (a :: d :: c :: n :: r) = if n.lt d = true then a :: n :: c :: d :: r else a :: d :: c :: n :: r := rfl
theorem sd14 (n a c d e : It) (r : List It) : sdown n 1 4 4 (a :: e :: c :: d :: n :: r) = if n.lt e = true then a :: n :: c :: d :: e :: r else a :: e :: c :: d :: n :: r := rfl
theorem su_e (n : It) (f p : Nat) (its : List It) (h : ¬ 2 * p + 1 < its.length) : supL n f p its = (p, its) := by
  cases f with
  | zero => rfl
  | succ f => exact if_neg h
theorem su_l {n x y : It} (f p : Nat) (its : List It) (h1 : 2 * p + 1 < its.length) (hx : its.getD (2 * p + 1) n = x) (hy : its.getD (2 * p + 2) n = y) (h : x.lt y = true) : supL n (f + 1) p its = supL n f (2 * p + 1) (its.set p x) := by
  subst hx hy
  rw [supL, if_pos h1, if_neg (fun x => Bool.noConfusion (x.2.symm.trans h))]
theorem su_o {n x : It} (f p : Nat) (its : List It) (h1 : 2 * p + 1 < its.length) (hx : its.getD (2 * p + 1) n = x) (h : ¬ 2 * p + 2 < its.length) : supL n (f + 1) p its = supL n f (2 * p + 1) (its.set p x) := by
  subst hx
  rw [supL, if_pos h1, if_neg (fun x => h x.1)]
theorem su_r {n x y : It} (f p : Nat) (its : List It) (h1 : 2 * p + 2 < its.length) (hx : its.getD (2 * p + 1) n = x) (hy : its.getD (2 * p + 2) n = y) (h : ¬ x.lt y = true) : supL n (f + 1) p its = supL n f (2 * p + 2) (its.set p y) := by
  subst hx hy
  rw [supL, if_pos (Nat.lt_of_succ_lt h1), if_pos ⟨h1, eq_false_of_ne_true h⟩]
theorem lt_w {i j : It} (h : i.lt j = true) : i.w ≤ j.w := by
  rcases of_decide_eq_true h with h | h
  · exact Int.le_of_lt h
  · exact Int.le_of_eq h.1
theorem nlt_w {i j : It} (h : ¬ i.lt j = true) : j.w ≤ i.w :=
  Int.not_lt.mp fun x => h (decide_eq_true (.inl x))
theorem n2 : ¬ (3 < 2) := by decide
theorem n3 : ¬ (3 < 3) := by decide
theorem k1 : 1 < 2 := by decide
theorem k2 : 1 < 3 := by decide
theorem k3 : 2 < 3 := by decide
theorem k4 : 1 < 4 := by decide
theorem k5 : 2 < 4 := by decide
theorem k6 : 3 < 4 := by decide
theorem k7 : 1 < 5 := by decide
theorem k8 : 2 < 5 := by decide
theorem k9 : 3 < 5 := by decide
theorem ka : 4 < 5 := by decide
theorem sup_at {new : It} {its its' : List It} {pos p : Nat} (h : supL new its.length pos its = (p, its')) : siftup new its pos = sdown new pos p p (its'.set p new) := by
  unfold siftup; rw [h]
theorem su2 (n b : It) : siftup n [n, b] 0 = sdown n 0 1 1 [b, n] := sup_at (its' := [b, b]) ((su_o 1 0 [n, b] k1 rfl (by show ¬ 2 < 2; decide)).trans (su_e n 1 1 [b, b] n2))
theorem su3l {n b c : It} (h : b.lt c = true) : siftup n [n, b, c] 0 = sdown n 0 1 1 [b, n, c] := sup_at (its' := [b, b, c]) ((su_l 2 0 [n, b, c] k2 rfl rfl h).trans (su_e n 2 1 [b, b, c] n3))
theorem su3r {n b c : It} (h : ¬ b.lt c = true) : siftup n [n, b, c] 0 = sdown n 0 2 2 [c, b, n] := sup_at (its' := [c, b, c]) ((su_r 2 0 [n, b, c] k3 rfl rfl h).trans (su_e n 2 2 [c, b, c] (by show ¬ 5 < 3; decide)))
theorem su4l {n b c d : It} (h : b.lt c = true) : siftup n [n, b, c, d] 0 = sdown n 0 3 3 [b, d, c, n] :=
  sup_at (its' := [b, d, c, d]) ((su_l 3 0 [n, b, c, d] k4 rfl rfl h).trans ((su_o 2 1 [b, b, c, d] k6 rfl (by show ¬ 4 < 4; decide)).trans (su_e n 2 3 [b, d, c, d] (by show ¬ 7 < 4; decide))))
theorem su4r {n b c d : It} (h : ¬ b.lt c = true) : siftup n [n, b, c, d] 0 = sdown n 0 2 2 [c, b, n, d] := sup_at (its' := [c, b, c, d]) ((su_r 3 0 [n, b, c, d] k5 rfl rfl h).trans (su_e n 3 2 [c, b, c, d] (by show ¬ 5 < 4; decide)))
theorem su5ll {n b c d e : It} (h : b.lt c = true) (h' : d.lt e = true) : siftup n [n, b, c, d, e] 0 = sdown n 0 3 3 [b, d, c, n, e] :=
  sup_at (its' := [b, d, c, d, e]) ((su_l 4 0 [n, b, c, d, e] k7 rfl rfl h).trans ((su_l 3 1 [b, b, c, d, e] k9 rfl rfl h').trans (su_e n 3 3 [b, d, c, d, e] (by show ¬ 7 < 5; decide))))
theorem su5lr {n b c d e : It} (h : b.lt c = true) (h' : ¬ d.lt e = true) : siftup n [n, b, c, d, e] 0 = sdown n 0 4 4 [b, e, c, d, n] :=
  sup_at (its' := [b, e, c, d, e]) ((su_l 4 0 [n, b, c, d, e] k7 rfl rfl h).trans ((su_r 3 1 [b, b, c, d, e] ka rfl rfl h').trans (su_e n 3 4 [b, e, c, d, e] (by show ¬ 9 < 5; decide))))
theorem su5r {n b c d e : It} (h : ¬ b.lt c = true) : siftup n [n, b, c, d, e] 0 = sdown n 0 2 2 [c, b, n, d, e] := sup_at (its' := [c, b, c, d, e]) ((su_r 4 0 [n, b, c, d, e] k8 rfl rfl h).trans (su_e n 4 2 [c, b, c, d, e] (by show ¬ 5 < 5; decide)))
theorem su1l {n a c d e : It} (h : d.lt e = true) : siftup n [a, n, c, d, e] 1 = sdown n 1 3 3 [a, d, c, n, e] := sup_at (its' := [a, d, c, d, e]) ((su_l 4 1 [a, n, c, d, e] k9 rfl rfl h).trans (su_e n 4 3 [a, d, c, d, e] (by show ¬ 7 < 5; decide)))
theorem su1r {n a c d e : It} (h : ¬ d.lt e = true) : siftup n [a, n, c, d, e] 1 = sdown n 1 4 4 [a, e, c, d, n] := sup_at (its' := [a, e, c, d, e]) ((su_r 4 1 [a, n, c, d, e] ka rfl rfl h).trans (su_e n 4 4 [a, e, c, d, e] (by show ¬ 9 < 5; decide)))
/-- the rest of a heap (its top apart), four items at most -/
inductive hpR : List It → Prop
  | r0 : hpR []
  | r1 (b : It) : hpR [b]
  | r2 (b c : It) : hpR [b, c]
  | r3 {b c d : It} : b.w ≤ d.w → hpR [b, c, d]
  | r4 {b c d e : It} : b.w ≤ d.w → b.w ≤ e.w → hpR [b, c, d, e]
theorem ini_of {r l : List It} {z y : It} (e : r ++ [z] = l ++ [y]) : r = l := (List.append_inj' e rfl).1
theorem hpR.init {r : List It} {z : It} (h : hpR (r ++ [z])) : hpR r := by
  generalize e : r ++ [z] = l at h
  cases h with
  | r0 => exact absurd e (by simp)
  | r1 b => rw [ini_of (l := []) (y := b) e]; exact .r0
  | r2 b c => rw [ini_of (l := [b]) (y := c) e]; exact .r1 b
  | @r3 b c d h => rw [ini_of (l := [b, c]) (y := d) e]; exact .r2 b c
  | @r4 b c d e' h h' => rw [ini_of (l := [b, c, d]) (y := e') e]; exact .r3 h
/-- a heap by weight -/
inductive hpW : List It → Prop
  | mk {x : It} {r : List It} : hpR r → (∀ y ∈ r, x.w ≤ y.w) → hpW (x :: r)
theorem all1 {x b : It} (h : x.w ≤ b.w) : ∀ y ∈ [b], x.w ≤ y.w := List.forall_mem_singleton.mpr h
theorem all2 {x b c : It} (h : x.w ≤ b.w) (h2 : x.w ≤ c.w) : ∀ y ∈ [b, c], x.w ≤ y.w := List.forall_mem_cons.mpr ⟨h, all1 h2⟩
theorem all3 {x b c d : It} (h : x.w ≤ b.w) (h2 : x.w ≤ c.w) (h3 : x.w ≤ d.w) : ∀ y ∈ [b, c, d], x.w ≤ y.w := List.forall_mem_cons.mpr ⟨h, all2 h2 h3⟩
theorem all4 {x b c d e : It} (h : x.w ≤ b.w) (h2 : x.w ≤ c.w) (h3 : x.w ≤ d.w) (h4 : x.w ≤ e.w) : ∀ y ∈ [b, c, d, e], x.w ≤ y.w := List.forall_mem_cons.mpr ⟨h, all3 h2 h3 h4⟩
theorem sw2 (n b c : It) (r : List It) : (c :: b :: n :: r).Perm (n :: b :: c :: r) :=
  (List.Perm.swap b c (n :: r)).trans (List.perm_middle (a := n) (l₁ := [b, c]) (l₂ := r))
theorem sw3 (n a b c : It) (r : List It) : (a :: c :: b :: n :: r).Perm (n :: a :: b :: c :: r) :=
  (List.perm_middle (a := n) (l₁ := [a, c, b]) (l₂ := r)).trans (.cons n (.cons a (.swap b c r)))
theorem sw5 (n c d e : It) : [e, c, d, n].Perm [n, c, d, e] := (List.perm_middle (a := n) (l₁ := [e, c, d]) (l₂ := [])).trans (.cons n (List.perm_append_comm (l₁ := [e]) (l₂ := [c, d])))
theorem sw4 (n b c d e : It) : [b, e, c, d, n].Perm [n, b, c, d, e] := (List.Perm.cons b (sw5 n c d e)).trans (.swap _ _ _)
noncomputable def SOk (l' l : List It) : Prop := hpW l ∧ l.Perm l'
theorem SOk.mk {x : It} {r l : List It} (h : hpR r) (h' : ∀ y ∈ r, x.w ≤ y.w) (p : (x :: r).Perm l) : SOk l (x :: r) := ⟨.mk h h', p⟩
theorem ite_ok {c : Prop} [Decidable c] {l x y : List It} (h1 : c → SOk l x) (h2 : ¬ c → SOk l y) : SOk l (if c then x else y) := by
  split
  · exact h1 (by assumption)
  · exact h2 (by assumption)
/-- a new item at the top -/
theorem sift_ok {r : List It} (h : hpR r) (n : It) : SOk (n :: r) (siftup n (n :: r) 0) := by
  cases h with
  | r0 => exact .mk .r0 (List.forall_mem_nil _) (.refl _)
  | r1 b =>
    rw [su2, sd1]
    exact ite_ok (fun h => .mk (.r1 _) (all1 (lt_w h)) (.refl _)) fun h => .mk (.r1 _) (all1 (nlt_w h)) (.swap _ _ _)
  | r2 b c =>
    by_cases h1 : b.lt c = true
    · have k := lt_w h1
      rw [su3l h1, sd1]
      exact ite_ok (fun h => .mk (.r2 _ _) (all2 (lt_w h) (Int.le_trans (lt_w h) k)) (.refl _)) fun h => .mk (.r2 _ _) (all2 (nlt_w h) k) (.swap _ _ _)
    · have k := nlt_w h1
      rw [su3r h1, sd2]
      exact ite_ok (fun h => .mk (.r2 _ _) (all2 (Int.le_trans (lt_w h) k) (lt_w h)) (.refl _)) fun h => .mk (.r2 _ _) (all2 k (nlt_w h)) (sw2 _ _ _ _)
  | r3 h =>
    rename_i b c d
    by_cases h1 : b.lt c = true
    · have k := lt_w h1
      rw [su4l h1, sd3]
      exact ite_ok (fun g => ite_ok (fun h2 => .mk (.r3 h) (all3 (lt_w h2) (Int.le_trans (lt_w h2) k) (lt_w g)) (.refl _)) fun h2 => .mk (.r3 (lt_w g)) (all3 (nlt_w h2) k h) (.swap _ _ _)) fun g => .mk (.r3 (nlt_w g)) (all3 h k (Int.le_trans h (nlt_w g))) (sw3 n b c d [])
    · have k := nlt_w h1
      rw [su4r h1, sd2]
      exact ite_ok (fun g => .mk (.r3 h) (all3 (Int.le_trans (lt_w g) k) (lt_w g) (Int.le_trans (lt_w g) (Int.le_trans k h))) (.refl _)) fun g => .mk (.r3 h) (all3 k (nlt_w g) (Int.le_trans k h)) (sw2 _ _ _ _)
  | r4 h h' =>
    rename_i b c d e
    by_cases h1 : b.lt c = true
    · have k := lt_w h1
      by_cases h3 : d.lt e = true
      · rw [su5ll h1 h3, sd3]
        exact ite_ok (fun g => ite_ok (fun h2 => .mk (.r4 h h') (all4 (lt_w h2) (Int.le_trans (lt_w h2) k) (lt_w g) (Int.le_trans (lt_w h2) h')) (.refl _)) fun h2 => .mk (.r4 (lt_w g) (Int.le_trans (lt_w g) (lt_w h3))) (all4 (nlt_w h2) k h h') (.swap _ _ _))
          fun g => .mk (.r4 (nlt_w g) (lt_w h3)) (all4 h k (Int.le_trans h (nlt_w g)) h') (sw3 n b c d [e])
      · rw [su5lr h1 h3, sd4]
        exact ite_ok (fun g => ite_ok (fun h2 => .mk (.r4 h h') (all4 (lt_w h2) (Int.le_trans (lt_w h2) k) (Int.le_trans (lt_w h2) h) (lt_w g)) (.refl _)) fun h2 => .mk (.r4 (Int.le_trans (lt_w g) (nlt_w h3)) (lt_w g)) (all4 (nlt_w h2) k h h') (.swap _ _ _))
          fun g => .mk (.r4 (nlt_w h3) (nlt_w g)) (all4 h' k h (Int.le_trans h' (nlt_w g))) (sw4 n b c d e)
    · have k := nlt_w h1
      rw [su5r h1, sd2]
      exact ite_ok (fun g => .mk (.r4 h h') (all4 (Int.le_trans (lt_w g) k) (lt_w g) (Int.le_trans (lt_w g) (Int.le_trans k h)) (Int.le_trans (lt_w g) (Int.le_trans k h'))) (.refl _)) fun g => .mk (.r4 h h') (all4 k (nlt_w g) (Int.le_trans k h) (Int.le_trans k h')) (sw2 _ _ _ _)
/-- the first turn of heapify -/
theorem sift_ok1 (a n c d e : It) : ∃ r, siftup n [a, n, c, d, e] 1 = a :: r ∧ hpR r ∧ (a :: r).Perm [a, n, c, d, e] := by
  by_cases h3 : d.lt e = true
  · rw [su1l h3, sd13]
    by_cases h : n.lt d = true
    · exact ⟨_, if_pos h, .r4 (lt_w h) (Int.le_trans (lt_w h) (lt_w h3)), .refl _⟩
    · exact ⟨_, if_neg h, .r4 (nlt_w h) (lt_w h3), .cons a (sw2 n c d [e])⟩
  · rw [su1r h3, sd14]
    by_cases h : n.lt e = true
    · exact ⟨_, if_pos h, .r4 (Int.le_trans (lt_w h) (nlt_w h3)) (lt_w h), .refl _⟩
    · exact ⟨_, if_neg h, .r4 (nlt_w h3) (nlt_w h), .cons a (sw5 n c d e)⟩
theorem pop_ok {ini : List It} {lst x : It} {r : List It} (h : hpW (ini ++ [lst])) (hp : popRest ini lst = x :: r) : hpR r ∧ (∀ y ∈ r, x.w ≤ y.w) ∧ (popRet ini lst :: x :: r).Perm (ini ++ [lst]) ∧ ∀ y ∈ x :: r, (popRet ini lst).w ≤ y.w := by
  cases ini with
  | nil => cases hp
  | cons a r0 =>
    cases h with
    | mk h1 h2 =>
      have o := sift_ok h1.init lst
      rw [show siftup lst (lst :: r0) 0 = x :: r from hp] at o
      have o2 := o.2.trans (List.perm_append_comm (l₁ := [lst]) (l₂ := r0))
      cases o.1 with
      | mk o3 o4 => exact ⟨o3, o4, .cons a o2, fun y hy => h2 y (o2.mem_iff.mp hy)⟩
/-! text Pn -/
/-- the leaves of a tree, with their codes -/
inductive PC : List (Int × List Bool) → Prop
  | one (n : Int) : PC [(n, [])]
  | split {n x y : Int} {c : List Bool} {F : List (Int × List Bool)} : PC ((n, c) :: F) → PC ((x, c ++ [false]) :: (y, c ++ [true]) :: F)
  | perm {F F' : List (Int × List Bool)} : PC F → F.Perm F' → PC F'
theorem snoc_prefix {a b : List Bool} {x : Bool} (h : a ++ [x] <+: b) : a <+: b := (List.prefix_append a [x]).trans h
theorem PC.free {F : List (Int × List Bool)} (h : PC F) : F.Pairwise fun p q => ¬ p.2 <+: q.2 ∧ ¬ q.2 <+: p.2 := by
  induction h with
  | one n => exact List.pairwise_singleton _ _
  | @split n x y c F _ ih =>
    rw [List.pairwise_cons] at ih
    have side : ∀ b, ∀ q ∈ F, ¬ c ++ [b] <+: q.2 ∧ ¬ q.2 <+: c ++ [b] := fun b q hq => by
      have := ih.1 q hq
      refine ⟨fun e => this.1 (snoc_prefix e), fun e => ?_⟩
      rcases List.prefix_concat_iff.mp e with e | e
      · exact this.1 (by show c <+: q.2; rw [e]; exact List.prefix_append _ _)
      · exact this.2 e
    rw [List.pairwise_cons, List.pairwise_cons]
    refine ⟨fun q hq => ?_, fun q hq => side true q hq, ih.2⟩
    rcases List.mem_cons.mp hq with rfl | hq
    · refine ⟨fun e => ?_, fun e => ?_⟩ <;> (have := e.eq_of_length (by simp); simp at this)
    · exact side false q hq
  | perm _ p ih => exact (p.pairwise_iff (fun {a b} h => ⟨h.2, h.1⟩)).mp ih
theorem PC.full {F : List (Int × List Bool)} (h : PC F) : ∀ r : List Bool, (∀ p ∈ F, p.2.length ≤ r.length) → ∃ p ∈ F, p.2 <+: r := by
  induction h with
  | one n => exact fun r _ => ⟨(n, []), .head _, List.nil_prefix⟩
  | @split n x y c F _ ih =>
    intro r hr
    have hc : c.length + 1 ≤ r.length := by have := hr _ (.head _); simpa using this
    obtain ⟨p, hp, he⟩ := ih r fun p hp => by
      rcases List.mem_cons.mp hp with rfl | hp
      · show c.length ≤ _; lia
      · exact hr p (.tail _ (.tail _ hp))
    rcases List.mem_cons.mp hp with rfl | hp
    · obtain ⟨t, rfl⟩ := he
      cases t with
      | nil => simp at hc; lia
      | cons b t =>
        cases b
        · exact ⟨_, .head _, ⟨t, by simp⟩⟩
        · exact ⟨_, .tail _ (.head _), ⟨t, by simp⟩⟩
    · exact ⟨p, .tail _ (.tail _ hp), he⟩
  | perm _ p ih =>
    intro r hr
    obtain ⟨q, hq, he⟩ := ih r fun q hq => hr q (p.mem_iff.mp hq)
    exact ⟨q, p.mem_iff.mp hq, he⟩
/-! text Po -/
theorem find_map_ne {α : Type} {k k' : Int} {v : α} (h : k' ≠ k) : ∀ kvs : List (Int × α), ((kvs.map fun p => if p.1 = k then (p.1, v) else p).find? fun p => decide (p.1 = k')).map (·.2) = (kvs.find? fun p => decide (p.1 = k')).map (·.2)
  | [] => rfl
  | (a, b) :: r => by
    have ih := find_map_ne (v := v) h r
    rw [List.map_cons, List.find?_cons, List.find?_cons]
    by_cases e : a = k
    · have e' : a ≠ k' := fun q => h (q.symm.trans e)
      simp only [e, if_true]
      simp only [show ¬ k = k' from fun q => h q.symm, decide_false]
      exact ih
    · simp only [if_neg e]
      by_cases e2 : a = k'
      · simp only [e2, decide_true]
      · simp only [e2, decide_false]; exact ih
theorem vAt_put_ne {α : Type} {kvs : List (Int × α)} {k k' : Int} {v : α} (h : k' ≠ k) : vAt (put kvs k v) k' = vAt kvs k' := by
  unfold put
  split
  · exact find_map_ne h kvs
  · unfold vAt
    rw [List.find?_append]
    have : ([(k, v)] : List (Int × α)).find? (fun p => decide (p.1 = k')) = none := by simp [Ne.symm h]
    rw [this, Option.or_none]
theorem find_map_self {α : Type} {k : Int} {v : α} : ∀ kvs : List (Int × α), (kvs.any fun p => decide (p.1 = k)) = true → ((kvs.map fun p => if p.1 = k then (p.1, v) else p).find? fun p => decide (p.1 = k)).map (·.2) = some v
  | [], h => by simp at h
  | (a, b) :: r, h => by
    rw [List.map_cons, List.find?_cons]
    by_cases e : a = k
    · simp only [e, if_true, decide_true]; rfl
    · rw [List.any_cons] at h
      simp only [e, decide_false, Bool.false_or] at h
      simp only [e, if_false, decide_false]
      exact find_map_self r h
theorem vAt_put_self {α : Type} {kvs : List (Int × α)} {k : Int} {v : α} : vAt (put kvs k v) k = some v := by
  unfold put
  split
  · rename_i h; exact find_map_self kvs h
  · rename_i h
    unfold vAt
    rw [List.find?_append]
    have : kvs.find? (fun p => decide (p.1 = k)) = none := by
      rw [List.find?_eq_none]
      intro p hp e
      exact h (List.any_eq_true.mpr ⟨p, hp, e⟩)
    rw [this]; simp
/-! text Pq -/
noncomputable def costF (FI : List (It × List Bool)) : Int := (FI.map fun p => p.1.w * (p.2.length : Int)).sum
theorem sum_perm {a b : List Int} (h : a.Perm b) : a.sum = b.sum := by
  induction h with
  | nil => rfl
  | cons x _ ih => rw [List.sum_cons, List.sum_cons, ih]
  | swap x y l => simp only [List.sum_cons]; exact Int.add_left_comm _ _ _
  | trans _ _ i1 i2 => exact i1.trans i2
theorem costF_perm {a b : List (It × List Bool)} (h : a.Perm b) : costF a = costF b := sum_perm (h.map _)
theorem costF_cons (p : It × List Bool) (r : List (It × List Bool)) : costF (p :: r) = p.1.w * (p.2.length : Int) + costF r := List.sum_cons
theorem cost_split {p x new : It} {c : List Bool} {FR : List (It × List Bool)} (hw : new.w = p.w + x.w) : costF ((p, c ++ [false]) :: (x, c ++ [true]) :: FR) = costF ((new, c) :: FR) + (p.w + x.w) := by
  rw [costF_cons, costF_cons, costF_cons]
  show p.w * ((c ++ [false]).length : Int) + (x.w * ((c ++ [true]).length : Int) + costF FR) = new.w * (c.length : Int) + costF FR + (p.w + x.w)
  rw [List.length_append, List.length_append, hw, Int.add_mul]
  show p.w * (c.length + 1) + (x.w * (c.length + 1) + costF FR) = _
  rw [Int.mul_add, Int.mul_add, Int.mul_one, Int.mul_one]
  lia
/-- the weights' merges, the two least each time -/
inductive MS (ws : List Int) : List Int → Int → Prop
  | start {l : List Int} : l.Perm ws → MS ws l 0
  | step {l r l' : List Int} {a b t : Int} : MS ws l t → l.Perm (a :: b :: r) → (∀ y ∈ b :: r, a ≤ y) → (∀ y ∈ r, b ≤ y) → l'.Perm ((a + b) :: r) → MS ws l' (t + (a + b))
theorem take_out {FI : List (It × List Bool)} {new : It} {r : List It} (h : (FI.map (·.1)).Perm (new :: r)) : ∃ c FR, FI.Perm ((new, c) :: FR) ∧ (FR.map (·.1)).Perm r := by
  obtain ⟨p, hp, e⟩ := List.mem_map.mp (h.mem_iff.mpr (.head _))
  obtain ⟨A, B, rfl⟩ := List.append_of_mem hp
  cases p; cases e
  exact ⟨_, A ++ B, List.perm_middle, (((List.perm_middle (l₁ := A) (l₂ := B)).map (·.1)).symm.trans h).cons_inv⟩
noncomputable abbrev keyed (FI : List (It × List Bool)) : List (Int × List Bool) := FI.map fun p => (p.1.k, p.2)
theorem map_all {l : List It} {P : Int → Prop} (h : ∀ i ∈ l, P i.w) : ∀ y ∈ l.map (·.w), P y := fun y hy => by
  obtain ⟨i, hi, rfl⟩ := List.mem_map.mp hy; exact h i hi
theorem expand_step {prsF : List (Int × Int)} {m n : Nat} {kvs : List (Int × List Bool)} {a b : Int} {c : List Bool} (hm : n + (m + 1) = 4) (hex : expandT prsF m = some kvs) (hpr : prsF[n]? = some (a, b)) (hc : vAt kvs (5 + (n : Int)) = some c) (hne : 5 + (n : Int) ≠ a) :
    expandT prsF (m + 1) = some (put (put kvs a (c ++ [false])) b (c ++ [true])) := by
  have e3 : 3 - m = n := by rw [← (show n + m = 3 from Nat.succ.inj hm)]; exact Nat.add_sub_cancel _ _
  unfold expandT
  rw [hex, Option.bind_some, e3, hpr, Option.bind_some, hc, Option.bind_some, vAt_put_ne hne, hc, Option.bind_some]
theorem run_facts {its0 its : List It} {prs : List (Int × Int)} (h : Run its0 its prs) (hh : hpW its0) (hid : (its0.map (·.k)).Nodup) (hlt : ∀ i ∈ its0, i.k < 5) :
    hpW its ∧ (its.map (·.k)).Nodup ∧ (∀ i ∈ its, i.k < 5 + (prs.length : Int)) ∧ ∃ t, MS (its0.map (·.w)) (its.map (·.w)) t ∧
      ∀ prsF FI kvs m, prs <+: prsF → prs.length + m = 4 → (FI.map (·.1)).Perm its → PC (keyed FI) → expandT prsF m = some kvs → (∀ p ∈ FI, vAt kvs p.1.k = some p.2) → (∀ p ∈ FI, p.2.length ≤ m) →
        ∃ FI0 cds, (FI0.map (·.1)).Perm its0 ∧ PC (keyed FI0) ∧ expandT prsF 4 = some cds ∧ (∀ p ∈ FI0, vAt cds p.1.k = some p.2) ∧ (∀ p ∈ FI0, p.2.length ≤ 4) ∧ costF FI0 = costF FI + t := by
  induction h with
  | start =>
    refine ⟨hh, hid, fun i hi => by rw [List.length_nil]; exact hlt i hi, 0, .start (.refl _), fun prsF FI kvs m _ hm h1 h2 h3 h4 h5 => ?_⟩
    rw [List.length_nil, Nat.zero_add] at hm
    rw [hm] at h3 h5
    exact ⟨FI, kvs, h1, h2, h3, h4, h5, (Int.add_zero _).symm⟩
  | @step ini r lst x new prs hR hp hw hk ih =>
    obtain ⟨ihh, ihid, ihlt, t, hms, back⟩ := ih
    obtain ⟨p0, p1, p2, p3⟩ := pop_ok ihh hp
    have q := sift_ok p0 new
    have hids := (p2.map (·.k)).nodup_iff.mpr ihid
    have hlts : ∀ i ∈ popRet ini lst :: x :: r, i.k < new.k := fun i hi => by rw [hk]; exact ihlt i (p2.mem_iff.mp hi)
    have hn : (5 : Int) + ((prs ++ [((popRet ini lst).k, x.k)]).length : Int) = new.k + 1 := by rw [List.length_append, hk, List.length_singleton, Int.natCast_add]; exact (Int.add_assoc 5 _ 1).symm
    rw [List.map_cons, List.map_cons, List.nodup_cons, List.nodup_cons] at hids
    refine ⟨q.1, (q.2.map _).nodup_iff.mpr (List.nodup_cons.mpr ⟨fun hm => ?_, hids.2.2⟩), fun i hi => ?_, t + ((popRet ini lst).w + x.w), .step hms (p2.symm.map (·.w)) (map_all (l := x :: r) p3) (map_all p1) ?_, fun prsF FI kvs m hpre hm hFI hPC hex hv hle => ?_⟩
    · obtain ⟨i, hi, e⟩ := List.mem_map.mp hm
      exact absurd (hlts i (.tail _ (.tail _ hi))) (e ▸ Int.lt_irrefl _)
    · rw [hn]
      rcases List.mem_cons.mp (q.2.mem_iff.mp hi) with e | hi
      · rw [e]; exact Int.lt_succ _
      · exact Int.lt_trans (hlts i (.tail _ (.tail _ hi))) (Int.lt_succ _)
    · have := q.2.map (·.w)
      rw [List.map_cons, hw] at this; exact this
    · obtain ⟨c, FR, hFR, hFRr⟩ := take_out (hFI.trans q.2)
      have hm' : prs.length + (m + 1) = 4 := by rw [List.length_append] at hm; rw [← hm, Nat.add_assoc, Nat.add_comm m]; rfl
      have hpr : prsF[prs.length]? = some ((popRet ini lst).k, x.k) := by
        obtain ⟨tl, rfl⟩ := hpre
        rw [List.append_assoc, List.getElem?_append_right (Nat.le_refl _), Nat.sub_self]; rfl
      have hnc := hFR.mem_iff.mpr (.head _)
      have hex2 := expand_step hm' hex hpr (hk ▸ hv _ hnc) (by rw [← hk]; exact Int.ne_of_gt (hlts _ (.head _)))
      have hpx : (popRet ini lst).k ≠ x.k := fun e => hids.1 (by rw [e]; exact .head _)
      have hvr : ∀ p ∈ FR, vAt (put (put kvs (popRet ini lst).k (c ++ [false])) x.k (c ++ [true])) p.1.k = some p.2 := fun p hp => by
        have hmk : p.1.k ∈ r.map (·.k) := List.mem_map_of_mem (f := (·.k)) (hFRr.mem_iff.mp (List.mem_map_of_mem (f := (·.1)) hp))
        have n1 : p.1.k ≠ x.k := fun e => hids.2.1 (by rw [← e]; exact hmk)
        have n2 : p.1.k ≠ (popRet ini lst).k := fun e => hids.1 (by rw [← e]; exact .tail _ hmk)
        exact (vAt_put_ne n1).trans ((vAt_put_ne n2).trans (hv p (hFR.mem_iff.mpr (.tail _ hp))))
      have hl1 : ∀ b : Bool, (c ++ [b]).length ≤ m + 1 := fun b => by rw [List.length_append]; exact Nat.succ_le_succ (hle _ hnc)
      obtain ⟨FI0, cds, a1, a2, a3, a4, a5, a6⟩ := back prsF ((popRet ini lst, c ++ [false]) :: (x, c ++ [true]) :: FR) _ _ ((List.prefix_append _ _).trans hpre) hm' ((List.Perm.cons _ (List.Perm.cons _ hFRr)).trans p2) (.split (n := new.k) (.perm hPC (hFR.map _))) hex2
        (List.forall_mem_cons.mpr ⟨(vAt_put_ne hpx).trans vAt_put_self, List.forall_mem_cons.mpr ⟨vAt_put_self, hvr⟩⟩) (List.forall_mem_cons.mpr ⟨hl1 _, List.forall_mem_cons.mpr ⟨hl1 _, fun p hp => Nat.le_succ_of_le (hle p (hFR.mem_iff.mpr (.tail _ hp)))⟩⟩)
      exact ⟨FI0, cds, a1, a2, a3, a4, a5, by rw [a6, costF_perm hFR, cost_split hw, Int.add_assoc, Int.add_comm t]⟩
/-! text Pr -/
/-- a number put into its place in a sorted row -/
noncomputable def insS (s : Int) : List Int → List Int
  | [] => [s]
  | x :: r => if s ≤ x then s :: x :: r else x :: insS s r
theorem insS_perm (s : Int) : ∀ l, (insS s l).Perm (s :: l)
  | [] => .refl _
  | x :: r => by
    unfold insS
    split
    · exact .refl _
    · exact ((insS_perm s r).cons x).trans (.swap _ _ _)
theorem insS_sorted {s : Int} : ∀ {l : List Int}, l.Pairwise (· ≤ ·) → (insS s l).Pairwise (· ≤ ·)
  | [], _ => List.pairwise_singleton _ _
  | x :: r, h => by
    rw [List.pairwise_cons] at h
    unfold insS
    split
    · rename_i hs
      rw [List.pairwise_cons, List.pairwise_cons]
      refine ⟨fun y hy => ?_, h.1, h.2⟩
      rcases List.mem_cons.mp hy with rfl | hy
      · exact hs
      · exact Int.le_trans hs (h.1 y hy)
    · rename_i hs
      rw [List.pairwise_cons]
      refine ⟨fun y hy => ?_, insS_sorted h.2⟩
      rcases List.mem_cons.mp ((insS_perm s r).mem_iff.mp hy) with rfl | hy
      · exact Int.le_of_lt (Int.not_le.mp hs)
      · exact h.1 y hy
theorem sort_uniq {l l' : List Int} (h : l.Pairwise (· ≤ ·)) (h' : l'.Pairwise (· ≤ ·)) (p : l.Perm l') : l = l' := by
  induction l generalizing l' with
  | nil => exact (List.nil_perm.mp p).symm
  | cons x r ih =>
    cases l' with
    | nil => exact absurd p.length_eq (by simp)
    | cons y r' =>
      rw [List.pairwise_cons] at h h'
      have e : x = y := by
        have h1 : y ≤ x := (List.mem_cons.mp (p.mem_iff.mp (.head _))).elim (fun e => Int.le_of_eq e.symm) (h'.1 x)
        have h2 : x ≤ y := (List.mem_cons.mp (p.mem_iff.mpr (.head _))).elim (fun e => Int.le_of_eq e.symm) (h.1 y)
        exact Int.le_antisymm h2 h1
      subst e
      rw [ih h.2 h'.2 p.cons_inv]
theorem sort_ex : ∀ ws : List Int, ∃ srt : List Int, srt.Perm ws ∧ srt.Pairwise (· ≤ ·)
  | [] => ⟨[], .refl _, .nil⟩
  | x :: r => let ⟨s, p, h⟩ := sort_ex r; ⟨insS x s, (insS_perm x s).trans (p.cons x), insS_sorted h⟩
/-- what the merges of a sorted row come to -/
noncomputable def hcost : Nat → List Int → Int
  | n + 1, a :: b :: r => (a + b) + hcost n (insS (a + b) r)
  | _, _ => 0
theorem ms_cost {ws srt : List Int} (hp : srt.Perm ws) (hs : srt.Pairwise (· ≤ ·)) {l : List Int} {t : Int} (h : MS ws l t) : ∃ s', s'.Perm l ∧ s'.Pairwise (· ≤ ·) ∧ hcost srt.length srt = t + hcost s'.length s' := by
  induction h with
  | start p => exact ⟨srt, hp.trans p.symm, hs, by simp⟩
  | @step l r l' a b t _ p1 h1 h2 p2 ih =>
    obtain ⟨s', q1, q2, q3⟩ := ih
    obtain ⟨r', e1, e2⟩ := sort_ex r
    have so : (a :: b :: r').Pairwise (· ≤ ·) := by
      rw [List.pairwise_cons, List.pairwise_cons]
      exact ⟨fun y hy => h1 y (((e1.cons b).mem_iff).mp hy), fun y hy => h2 y (e1.mem_iff.mp hy), e2⟩
    have e : s' = a :: b :: r' := sort_uniq q2 so ((q1.trans p1).trans ((e1.symm.cons b).cons a))
    subst e
    refine ⟨insS (a + b) r', (insS_perm _ _).trans ((e1.cons _).trans p2.symm), insS_sorted e2, ?_⟩
    rw [q3, (insS_perm (a + b) r').length_eq]
    exact (Int.add_assoc _ _ _).symm
theorem hc2 (a b : Int) : hcost 2 [a, b] = a + b := Int.add_zero _
theorem hc3 (p q r : Int) : hcost 3 [p, q, r] = (p + q) + (p + q + r) := by
  show (p + q) + hcost 2 (if p + q ≤ r then [p + q, r] else [r, p + q]) = _
  split
  · rw [hc2]
  · rw [hc2, Int.add_comm r]
theorem hc4a {p q r u : Int} (h : p + q ≤ u) : hcost 4 [p, q, r, u] = (p + q) + (p + q + r + (p + q + r + u)) := by
  show (p + q) + hcost 3 (if p + q ≤ r then [p + q, r, u] else r :: if p + q ≤ u then [p + q, u] else [u, p + q]) = _
  rw [if_pos h]
  split
  · rw [hc3]
  · rw [hc3, Int.add_comm r]
theorem hc4b {p q r u : Int} (hr : r ≤ u) (h : ¬ p + q ≤ u) : hcost 4 [p, q, r, u] = (p + q) + (r + u + (r + u + (p + q))) := by
  show (p + q) + hcost 3 (if p + q ≤ r then [p + q, r, u] else r :: if p + q ≤ u then [p + q, u] else [u, p + q]) = _
  rw [if_neg h, if_neg (fun x => h (Int.le_trans x hr)), hc3]
theorem min3 {A B C M X : Int} (m : M = A ∨ M = B ∨ M = C) (m1 : M ≤ A) (m2 : M ≤ B) (m3 : M ≤ C) (x : X = A ∨ X = B ∨ X = C) (x1 : X ≤ A) (x2 : X ≤ B) (x3 : X ≤ C) : X = M := by
  refine Int.le_antisymm ?_ ?_
  · rcases m with e | e | e <;> rw [e] <;> assumption
  · rcases x with e | e | e <;> rw [e] <;> assumption
theorem hcS {s c d e M : Int} (h3 : c ≤ d) (h4 : d ≤ e) (hs : s ≤ c + d) (m : M = 4 * s + 3 * c + 2 * d + e ∨ M = 3 * s + 3 * c + 3 * d + e ∨ M = 3 * s + 2 * c + 2 * d + 2 * e) (m1 : M ≤ 4 * s + 3 * c + 2 * d + e) (m2 : M ≤ 3 * s + 3 * c + 3 * d + e) (m3 : M ≤ 3 * s + 2 * c + 2 * d + 2 * e) :
    s + hcost 4 (insS s [c, d, e]) = M := by
  show s + hcost 4 (if s ≤ c then [s, c, d, e] else c :: if s ≤ d then [s, d, e] else d :: if s ≤ e then [s, e] else [e, s]) = M
  by_cases g : s ≤ d
  · have e1 : hcost 4 (if s ≤ c then [s, c, d, e] else c :: if s ≤ d then [s, d, e] else d :: if s ≤ e then [s, e] else [e, s]) = hcost 4 [s, c, d, e] := by
      rw [if_pos g]
      split
      · rfl
      · show (c + s) + _ = (s + c) + _
        rw [Int.add_comm c]
    rw [e1]; clear e1
    by_cases k : s + c ≤ e
    · rw [hc4a k]; exact min3 m m1 m2 m3 (.inl (by lia)) (by lia) (by lia) (by lia)
    · rw [hc4b h4 k]; exact min3 m m1 m2 m3 (.inr (.inr (by lia))) (by lia) (by lia) (by lia)
  · rw [if_neg g, if_neg (fun x => g (Int.le_trans x h3))]
    by_cases k : s ≤ e
    · rw [if_pos k]
      by_cases l : c + d ≤ e
      · rw [hc4a l]; exact min3 m m1 m2 m3 (.inr (.inl (by lia))) (by lia) (by lia) (by lia)
      · rw [hc4b k l]; exact min3 m m1 m2 m3 (.inr (.inr (by lia))) (by lia) (by lia) (by lia)
    · rw [if_neg k]
      have : hcost 4 [c, d, e, s] = (c + d) + (e + s + (e + s + (c + d))) := by
        by_cases l : c + d ≤ s
        · rw [hc4a l]; lia
        · exact hc4b (by lia) l
      rw [this]; exact min3 m m1 m2 m3 (.inr (.inr (by lia))) (by lia) (by lia) (by lia)
theorem hcost5 {a b c d e M : Int} (h1 : a ≤ b) (h2 : b ≤ c) (h3 : c ≤ d) (h4 : d ≤ e) (m : M = 4 * (a + b) + 3 * c + 2 * d + e ∨ M = 3 * (a + b) + 3 * c + 3 * d + e ∨ M = 3 * (a + b) + 2 * c + 2 * d + 2 * e) (m1 : M ≤ 4 * (a + b) + 3 * c + 2 * d + e) (m2 : M ≤ 3 * (a + b) + 3 * c + 3 * d + e) (m3 : M ≤ 3 * (a + b) + 2 * c + 2 * d + 2 * e) :
    hcost 5 [a, b, c, d, e] = M :=
  hcS h3 h4 (Int.add_le_add (Int.le_trans h1 h2) (Int.le_trans h2 h3)) m m1 m2 m3
/-! text Ps -/
theorem run_root {its0 its : List It} {prs : List (Int × Int)} (h : Run its0 its prs) (h5 : its0.length = 5) (h1 : its.length = 1) : ∃ root, its = [root] ∧ root.k = 8 ∧ prs.length = 4 := by
  have hl := run_len h
  rw [h1, h5, Nat.add_comm] at hl
  have hl := Nat.succ.inj hl
  cases h with
  | start => rw [h5] at h1; cases h1
  | @step ini r lst x new prs hR hp hw hk =>
    rw [siftup_len] at h1
    cases r with
    | cons _ _ => cases h1
    | nil =>
      refine ⟨new, rfl, ?_, hl⟩
      rw [List.length_append] at hl
      rw [hk, Nat.succ.inj hl]; rfl
theorem mem5 : ∀ k : Nat, k < 5 → ((k : Nat) : Int) ∈ ([0, 1, 2, 3, 4] : List Int) := by decide
theorem of5 : ∀ z ∈ ([0, 1, 2, 3, 4] : List Int), z.toNat < 5 ∧ ((z.toNat : Nat) : Int) = z := by decide
theorem lt5 : ∀ z ∈ ([0, 1, 2, 3, 4] : List Int), z < 5 := by decide
theorem pw_all {α : Type} {R : α → α → Prop} (hs : ∀ {a b}, R a b → R b a) {l : List α} (h : l.Pairwise R) : ∀ a ∈ l, ∀ b ∈ l, a ≠ b → R a b := by
  induction h with
  | nil => exact fun a ha => nomatch ha
  | cons h _ ih =>
    intro a ha b hb n
    rcases List.mem_cons.mp ha with e | ha
    · rcases List.mem_cons.mp hb with e' | hb
      · exact absurd (e.trans e'.symm) n
      · rw [e]; exact h b hb
    · rcases List.mem_cons.mp hb with e' | hb
      · rw [e']; exact hs (h a ha)
      · exact ih a ha b hb n
theorem zip_self {α : Type} (f : Int → Nat → Int) (g : α → Int) (h : α → Nat) : ∀ l : List α, List.zipWith f (l.map g) (l.map h) = l.map fun x => f (g x) (h x)
  | [] => rfl
  | x :: r => congrArg (f (g x) (h x) :: ·) (zip_self f g h r)
theorem cost_min {srt : List Int} {M t : Int} (h5 : srt.length = 5) (p2 : srt.Pairwise (· ≤ ·)) (m1 : M ∈ shapes.map (dot srt.reverse)) (m2 : ∀ c ∈ shapes.map (dot srt.reverse), M ≤ c) (ht : hcost srt.length srt = t) : t = M := by
  obtain ⟨a, b, c, d, e, rfl⟩ := list5 h5
  rw [← ht]
  rw [List.pairwise_cons, List.pairwise_cons, List.pairwise_cons, List.pairwise_cons] at p2
  have e1 : dot [e, d, c, b, a] [1, 2, 3, 4, 4] = 4 * (a + b) + 3 * c + 2 * d + e := by show e * 1 + (d * 2 + (c * 3 + (b * 4 + (a * 4 + 0)))) = _; lia
  have e2 : dot [e, d, c, b, a] [1, 3, 3, 3, 3] = 3 * (a + b) + 3 * c + 3 * d + e := by show e * 1 + (d * 3 + (c * 3 + (b * 3 + (a * 3 + 0)))) = _; lia
  have e3 : dot [e, d, c, b, a] [2, 2, 2, 3, 3] = 3 * (a + b) + 2 * c + 2 * d + 2 * e := by show e * 2 + (d * 2 + (c * 2 + (b * 3 + (a * 3 + 0)))) = _; lia
  have hm : shapes.map (dot [a, b, c, d, e].reverse) = [4 * (a + b) + 3 * c + 2 * d + e, 3 * (a + b) + 3 * c + 3 * d + e, 3 * (a + b) + 2 * c + 2 * d + 2 * e] := by rw [← e1, ← e2, ← e3]; rfl
  rw [hm] at m1 m2
  refine hcost5 (p2.1 b (.head _)) (p2.2.1 c (.head _)) (p2.2.2.1 d (.head _)) (p2.2.2.2.1 e (.head _)) ?_ (m2 _ (.head _)) (m2 _ (.tail _ (.head _))) (m2 _ (.tail _ (.tail _ (.head _))))
  rw [List.mem_cons, List.mem_cons, List.mem_singleton] at m1
  exact m1
theorem plain_core {its0 its is : List It} {ws : List Int} {prs : List (Int × Int)} (hR : Run its0 its prs) (h1 : its.length = 1) (hh : hpW its0) (hp : its0.Perm is) (hk : is.map (·.k) = [0, 1, 2, 3, 4]) (hw : is.map (·.w) = ws) :
    ∃ cds, expandT prs 4 = some cds ∧ (∀ k : Nat, k < 5 → (vAt cds k).isSome = true) ∧
    ∀ code : Nat → List Bool, (∀ k : Nat, k < 5 → vAt cds k = some (code k)) → (∀ k, k < 5 → code k ≠ []) ∧ (∀ k, k < 5 → (code k).length ≤ 8) ∧ (∀ i j, i < 5 → j < 5 → code i <+: code j → i = j) ∧
      (∀ r : List Bool, r.length = 4 → ∃ i, i < 5 ∧ code i <+: r) ∧ ∀ (srt : List Int) (M : Int), srt.Perm ws → srt.Pairwise (· ≤ ·) → M ∈ shapes.map (dot srt.reverse) → (∀ c ∈ shapes.map (dot srt.reverse), M ≤ c) → costOf ws code = M := by
  have h5 : its0.length = 5 := by rw [hp.length_eq, ← List.length_map (f := (·.k)), hk]; rfl
  have kin : ∀ i ∈ is, i.k ∈ ([0, 1, 2, 3, 4] : List Int) := fun i hi => hk ▸ List.mem_map_of_mem (f := (·.k)) hi
  obtain ⟨root, rfl, hr8, hp4⟩ := run_root hR h5 h1
  have hid : (its0.map (·.k)).Nodup := by rw [(hp.map _).nodup_iff, hk]; decide
  obtain ⟨-, -, -, t, hms, back⟩ := run_facts hR hh hid fun i hi => lt5 _ (kin i (hp.mem_iff.mp hi))
  obtain ⟨FI, cds, f1, f2, f3, f4, f5, f6⟩ := back prs [(root, [])] [(8, [])] 0 (List.prefix_refl _) hp4 (.refl _) (.one _) rfl
    (List.forall_mem_singleton.mpr (by rw [hr8]; rfl)) (List.forall_mem_singleton.mpr (Nat.le_refl _))
  have hFp := f1.trans hp
  have hmem : ∀ k : Nat, k < 5 → ∃ p ∈ FI, p.1.k = (k : Int) := fun k h => by
    obtain ⟨i, hi, e⟩ := List.mem_map.mp (show (k : Int) ∈ is.map (·.k) by rw [hk]; exact mem5 k h)
    obtain ⟨p, hp, e'⟩ := List.mem_map.mp (hFp.mem_iff.mpr hi)
    exact ⟨p, hp, by rw [e']; exact e⟩
  refine ⟨cds, f3, fun k h => ?_, fun code hcode => ?_⟩
  · obtain ⟨p, hp, e⟩ := hmem k h
    rw [← e, f4 p hp]; rfl
  have hcp : ∀ p ∈ FI, code p.1.k.toNat = p.2 := fun p hp => by
    have hz := of5 _ (kin _ (hFp.mem_iff.mp (List.mem_map_of_mem (f := (·.1)) hp)))
    have h2 := hcode _ hz.1
    rw [hz.2, f4 p hp] at h2
    exact (Option.some.inj h2).symm
  have hFI : FI = (FI.map (·.1)).map fun i => (i, code i.k.toNat) := by
    rw [List.map_map]
    exact (List.map_id' FI).symm.trans (List.map_congr_left fun p hp => by show p = (p.1, code p.1.k.toNat); rw [hcp p hp])
  have hF5 : FI.Perm (is.map fun i => (i, code i.k.toNat)) := by
    have := hFp.map fun i => (i, code i.k.toNat)
    rw [← hFI] at this; exact this
  have hPC : PC (([0, 1, 2, 3, 4] : List Int).map fun z => (z, code z.toNat)) := by
    have := f2.perm (hF5.map fun p => (p.1.k, p.2))
    rw [List.map_map] at this
    rw [← hk, List.map_map]; exact this
  have hpf : ∀ i j, i < 5 → j < 5 → code i <+: code j → i = j := fun i j hi hj hij => Classical.byContradiction fun n =>
    (pw_all (fun h => ⟨h.2, h.1⟩) (List.pairwise_map.mp hPC.free) (i : Int) (mem5 i hi) (j : Int) (mem5 j hj) (fun e => n (Int.ofNat.inj e))).1 hij
  have hle : ∀ k : Nat, k < 5 → (code k).length ≤ 4 := fun k h => by
    obtain ⟨p, hp, e⟩ := hmem k h
    have := hcp p hp
    rw [e] at this
    rw [show code k = p.2 from this]; exact f5 p hp
  refine ⟨fun k h e => ?_, fun k h => Nat.le_trans (hle k h) (by decide), hpf, fun r hr => ?_, fun srt M p1 p2 m1 m2 => ?_⟩
  · have ha := hpf k 0 h (by decide) (by rw [e]; exact List.nil_prefix)
    have hb := hpf k 1 h (by decide) (by rw [e]; exact List.nil_prefix)
    rw [ha] at hb; cases hb
  · obtain ⟨p, hp, he⟩ := hPC.full r fun p hp => by
      obtain ⟨z, hz, rfl⟩ := List.mem_map.mp hp
      rw [hr]; exact hle _ (of5 z hz).1
    obtain ⟨z, hz, rfl⟩ := List.mem_map.mp hp
    exact ⟨z.toNat, (of5 z hz).1, he⟩
  · have hc : costOf ws code = t := by
      have h0 : t = costF FI := by rw [f6, costF_cons]; show t = root.w * 0 + 0 + t; rw [Int.mul_zero]; exact (Int.zero_add t).symm
      rw [h0, costF_perm hF5, ← hw]
      show (List.zipWith _ _ (([0, 1, 2, 3, 4] : List Int).map Int.toNat)).sum = _
      rw [← hk, List.map_map, zip_self]
      unfold costF
      rw [List.map_map]; rfl
    have hsw : srt.Perm (its0.map (·.w)) := by rw [← hw] at p1; exact p1.trans (hp.map _).symm
    obtain ⟨s', r1, _, r3⟩ := ms_cost hsw p2 hms
    rw [List.map_singleton] at r1
    rw [List.perm_singleton.mp r1] at r3
    rw [hc]
    exact cost_min (by rw [hsw.length_eq, List.length_map, h5]) p2 m1 m2 (r3.trans (Int.add_zero t))
theorem plain_all (ws : List Int) : PlainLaw ws := by
  intro i0 i1 i2 i3 i4 j0 j1 j2 j3 j4 hw hk hj its prs hR h1
  obtain ⟨r, e1, q1, q2⟩ := sift_ok1 i0 i1 i2 i3 i4
  rw [e1] at hj
  obtain ⟨e0, e2⟩ := List.cons.inj hj
  rw [← e0, ← e2] at hR
  have o := sift_ok q1 i0
  exact plain_core hR h1 o.1 (o.2.trans q2) hk hw
/-! text Fin -/
theorem cx_caller : Cx callerA 13 := ⟨rfl, by decide +kernel, by decide +kernel⟩
theorem law_entry {w : World} {s₁ : Shared} {h₁ : Heap} {tk : Nat} {name : Str} {scope : Scope} {fa sa : Addr} {cd : Value} {svs : List Value} {ns : List Int} {m : Str → Option Value} {o1 o2 : Obj} {Q : Flow → Shared → Prop} {E : Value → Shared → Prop}
    (PL : PlainLaw (wgts ns)) (kb : KB w s₁.heap) (hg : s₁.gens = #[]) (hL : s₁.heap.IsList sa svs.toArray) (hI : IntsAre svs ns) (hlen : ns.length ≤ 63) (FF : Fr s₁.heap s₁.heap.objs.size h₁ m) (NN : News s₁.heap s₁.heap.objs.size h₁ [(s₁.heap.objs.size + 1 + 1, o1), (s₁.heap.objs.size + 1, o2)])
    (hd1 : o1.data = .cell none) (hd2 : o2.data = .cell (some (.ref sa))) (hk : scope.kind = .function) (hlc : locsOk scope lawLc = true) (hgl : gloOk (KK w) scope lawGl = true) (hcl : ∀ n, cellsFrom n scope.names [] = [(S_ "codes", n + 1), (S_ "script", n)])
    (hc1 : scope.names.lookup (S_ "codes") = some .cell) (hc2 : scope.names.lookup (S_ "script") = some .cell)
    (h : ∀ s', (∀ b o, s₁.heap.get? b = some o → s'.heap.get? b = some o) → s'.os = s₁.os → s'.gens = #[] → Q (.ret (.bool true)) s') :
    wpAny (model PRG w) (callerA.deeper (envOfC name scope s₁.heap.objs.size fa cd)) (execs lawList (envOfC name scope s₁.heap.objs.size fa cd)) Q E { s₁ with heap := h₁, toks := tk } := by
  have hec : (envOfC name scope s₁.heap.objs.size fa cd).cells = [(S_ "codes", s₁.heap.objs.size + 1 + 1), (S_ "script", s₁.heap.objs.size + 1)] := hcl _
  have O : EO (envOfC name scope s₁.heap.objs.size fa cd) s₁.heap.objs.size lawLc [(S_ "codes", s₁.heap.objs.size + 1 + 1), (S_ "script", s₁.heap.objs.size + 1)] := by
    have O' := EO.of (env := envOfC name scope s₁.heap.objs.size fa cd) (L := s₁.heap.objs.size) (sc := scope) (lc := lawLc) rfl rfl rfl rfl hk (inter_of hk) hlc
    refine ⟨O'.loc, O'.kind, O'.glob, O'.blt, O'.inter, O'.locs, fun p hp => ?_⟩
    rcases List.mem_cons.mp hp with rfl | hp
    · exact ⟨.inl hc1, by rw [hec]; rfl, by rfl, by rfl⟩
    · rw [List.mem_singleton.mp hp]
      exact ⟨.inl hc2, by rw [hec]; rfl, by rfl, by rfl⟩
  have F : LawF w (callerA.deeper (envOfC name scope s₁.heap.objs.size fa cd)) (envOfC name scope s₁.heap.objs.size fa cd) s₁.heap.objs.size (s₁.heap.objs.size + 1) (s₁.heap.objs.size + 1 + 1) s₁.heap :=
    ⟨kb, cx_caller.deeper, O, hc1, glo_of rfl hgl⟩
  have hsa : At s₁.heap sa (LstW svs) := let ⟨o, e, c, n, d⟩ := hL; ⟨o, e, c, n, d⟩
  have S : St s₁.heap s₁.os ({ s₁ with heap := h₁, toks := tk } : Shared) [(s₁.heap.objs.size, NsA []), (s₁.heap.objs.size + 1, CellA (some (.ref sa))), (s₁.heap.objs.size + 1 + 1, CellA none)] := by
    refine ⟨FF.keep, fun p hp => ?_, fun p hp => ?_, by simp only [List.map_cons, List.map_nil, List.nodup_cons, List.mem_cons, List.not_mem_nil, or_false, not_or, not_false_eq_true, List.nodup_nil, and_true]; exact ⟨⟨Nat.ne_of_lt (Nat.lt_succ_self _), Nat.ne_of_lt (Nat.lt_succ_of_lt (Nat.lt_succ_self _))⟩, Nat.ne_of_lt (Nat.lt_succ_self _)⟩, hg, rfl⟩
    · simp only [List.mem_cons, List.not_mem_nil, or_false] at hp
      rcases hp with rfl | rfl | rfl
      · exact NsA.at FF.ns (fun p hp => nomatch hp) .nil
      · exact ⟨o2, (NN _ (.tail _ (.head _))).1, hd2⟩
      · exact ⟨o1, (NN _ (.head _)).1, hd1⟩
    · simp only [List.mem_cons, List.not_mem_nil, or_false] at hp
      rcases hp with rfl | rfl | rfl
      · exact size_none _
      · exact none_ge (Nat.le_succ _)
      · exact none_ge (Nat.le_add_right _ 2)
  exact law_all F hsa hI hlen PL S fun s' l' S' => h s' S'.keep S'.os S'.gens
theorem plain_law (ns : List Int) : PlainLaw (wgts ns) := plain_all _
set_option maxHeartbeats 8000000 in
theorem fin : PySem.Challenge.rw_ny0114_01.Holds := Mine.hd (by
  k_go0
  rename Frag.In _ _ => KX
  rename Top _ _ _ _ _ _ => TT
  rename Fr _ _ _ _ => FF
  rename News _ _ _ _ => NN
  rename IntsAre _ _ => hI
  rename CellsAre _ _ _ => CA
  rename Heap.IsList _ _ _ => hL
  have kb := KB.mk KX ⟨_, _, TT.g, TT.b, TT.builtins⟩ TT.nolimit
  obtain ⟨o1, o2, hcells, hd1, hd2⟩ := CellsAre.two CA
  cases hcells
  refine law_entry (plain_law _) kb (by assumption) hL hI (by omega) FF NN hd1 hd2 (by rfl) (by kernel_rfl!) (by kernel_rfl!) (fun _ => by rfl) (by kernel_rfl!) (by kernel_rfl!) ?_
  intro s' h1 h2 h3
  exact ⟨.inl ⟨.bool true, .bool true, [], rfl, fun _ => rfl, (.bool _), (by first | kernel_rfl! | with_unfolding_all rfl | (simp [PySem.W.OpenRow.claim]; done)), fun _ => ⟨.nil, fun a ha => nomatch ha⟩⟩, h1, h2, h3⟩)
end Mine
theorem PySem.Challenge.cw_ny0114_01_holds : PySem.Challenge.rw_ny0114_01.Holds :=
  Mine.fin
