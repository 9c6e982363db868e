import PyProof.Rows.All
import Wide.All
import OpenK.AllK
import Wide.FinOn
import KE.KOwnIter
import KE.KTypeOf
import PySem.Challenge.RW_ev0004_02
open PySem PySem.W PyProof.Rows PySem.Calls
set_option Elab.async false
set_option maxRecDepth 100000
set_option maxHeartbeats 8000000
namespace Mine

/-- the state behind, seen from a state ahead: what is not in D stands -/
structure Ext (D : List Addr) (s s' : Shared) : Prop where
  keep : ∀ b o, b ∉ D → s.heap.get? b = some o → s'.heap.get? b = some o
  os : s'.os = s.os
  gens : ∀ (i : Nat) (x : GenState), s.gens[i]? = some x → s'.gens[i]? = some x
  bare : AllBare s.gens → AllBare s'.gens
  soft : ∀ b o, s.heap.get? b = some o → (∃ es ep, o.data = .dict es ep) → ∃ sl, s'.heap.get? b = some { o with slots := sl }

theorem Ext.refl (D : List Addr) (s : Shared) : Ext D s s := ⟨fun _ _ _ e => e, rfl, fun _ _ e => e, id, fun _ o e _ => ⟨o.slots, e⟩⟩
theorem Ext.trans {D : List Addr} {a b c : Shared} (x : Ext D a b) (y : Ext D b c) : Ext D a c :=
  ⟨fun i o h e => y.keep i o h (x.keep i o h e), y.os.trans x.os, fun i g e => y.gens i g (x.gens i g e), fun h => y.bare (x.bare h),
   fun i o e hd => by
    obtain ⟨sl, e1⟩ := x.soft i o e hd
    obtain ⟨sl', e2⟩ := y.soft i _ e1 hd
    exact ⟨sl', e2⟩⟩
theorem Ext.mono {D D' : List Addr} {a b : Shared} (x : Ext D a b) (h : ∀ d ∈ D, d ∈ D') : Ext D' a b :=
  ⟨fun i o hi e => x.keep i o (fun q => hi (h _ q)) e, x.os, x.gens, x.bare, x.soft⟩
/-- a change of the heap alone -/
theorem Ext.heap {s : Shared} {h' : Heap} {tk : Nat} (hk : ∀ b o, b ∉ ([] : List Addr) → s.heap.get? b = some o → h'.get? b = some o) :
    Ext [] s { s with heap := h', toks := tk } := ⟨hk, rfl, fun _ _ e => e, id, fun _ o e _ => ⟨o.slots, hk _ o (by simp) e⟩⟩
/-- an address that may change: new, or told and no namespace -/
def Own (D : List Addr) (g : Shared) (a : Addr) : Prop := (a ∈ D ∧ ∀ o, g.heap.get? a = some o → ∀ es ep, o.data ≠ .dict es ep) ∨ g.heap.objs.size ≤ a
theorem Ext.but {D : List Addr} {g s : Shared} (x : Ext D g s) {W : List Addr} {h' : Heap} {tk : Nat} (hk : ∀ b o, b ∉ W → s.heap.get? b = some o → h'.get? b = some o) (hW : ∀ b ∈ W, Own D g b) :
    Ext D g { s with heap := h', toks := tk } := by
  have hn : ∀ b o, g.heap.get? b = some o → (b ∉ D ∨ ∃ es ep, o.data = .dict es ep) → b ∉ W := fun b o e hd hb => by
    rcases hW b hb with ⟨h1, h2⟩ | h
    · rcases hd with hd | ⟨es, ep, hd⟩
      · exact hd h1
      · exact h2 o e es ep hd
    · exact Nat.lt_irrefl _ (Nat.lt_of_lt_of_le (Heap.lt_size e) h)
  exact ⟨fun b o hb e => hk b o (hn b o e (.inl hb)) (x.keep b o hb e), x.os, x.gens, x.bare, fun b o e hd => by
    obtain ⟨sl, e1⟩ := x.soft b o e hd
    exact ⟨sl, hk b _ (hn b o e (.inr hd)) e1⟩⟩

/-- what stands at an address -/
inductive Sh where
  | list (items : Array Value)
  | raw (o : Obj)
  | cell (v : Option Value)
def Sh.at (h : Heap) (a : Addr) : Sh → Prop
  | .list items => h.PlainList a items
  | .raw o => h.get? a = some o
  | .cell v => h.IsCell a v
theorem Sh.at_keep {h h' : Heap} {a : Addr} {x : Sh} (e : x.at h a) (k : ∀ o, h.get? a = some o → h'.get? a = some o) : x.at h' a := by
  cases x with
  | list items => exact Heap.PlainList.at e k
  | raw o => exact k _ e
  | cell v => obtain ⟨o, ho, hd⟩ := e; exact ⟨o, k o ho, hd⟩
theorem Sh.at_lt {h : Heap} {a : Addr} {x : Sh} (e : x.at h a) : a < h.objs.size := by
  cases x with
  | list items => obtain ⟨n, e⟩ := e; exact Heap.lt_size e
  | raw o => exact Heap.lt_size e
  | cell v => obtain ⟨o, ho, _⟩ := e; exact Heap.lt_size ho

/-- a body's state: entered at g, locals m at L, the ledger of made things -/
structure Fs (D : List Addr) (g : Shared) (L : Addr) (m : Str → Option Value) (news : List (Addr × Sh)) (s : Shared) : Prop where
  ext : Ext D g s
  loc : ∃ m₀, s.heap.Ns L m₀ ∧ ∀ x v, m x = some v → m₀ x = some v
  newL : g.heap.objs.size ≤ L
  led : ∀ p ∈ news, p.2.at s.heap p.1
  own : ∀ p ∈ news, Own D g p.1
  nd : (L :: news.map (·.1)).Nodup

section
variable {D : List Addr} {g s : Shared} {L : Addr} {m : Str → Option Value} {news : List (Addr × Sh)}
theorem Fs.ltL (F : Fs D g L m news s) : L < s.heap.objs.size := let ⟨_, n, _⟩ := F.loc; n.lt
theorem Fs.weak (F : Fs D g L m news s) {m' : Str → Option Value} (h : ∀ x v, m' x = some v → m x = some v) : Fs D g L m' news s :=
  ⟨F.ext, let ⟨m₀, n, k⟩ := F.loc; ⟨m₀, n, fun x v e => k x v (h x v e)⟩, F.newL, F.led, F.own, F.nd⟩
theorem Fs.lt (F : Fs D g L m news s) {p : Addr × Sh} (h : p ∈ news) : p.1 < s.heap.objs.size := Sh.at_lt (F.led p h)
theorem Fs.ne (F : Fs D g L m news s) {p : Addr × Sh} (h : p ∈ news) : p.1 ≠ L := fun e => by
  have := (List.nodup_cons.mp F.nd).1
  exact this (e ▸ List.mem_map_of_mem h)
/-- the toks do not matter -/
theorem Fs.tk (F : Fs D g L m news s) (n : Nat) : Fs D g L m news { s with toks := n } :=
  ⟨F.ext.but (W := []) (fun _ _ _ e => e) (by simp), F.loc, F.newL, F.led, F.own, F.nd⟩
/-- anything that keeps all -/
theorem Fs.step (F : Fs D g L m news s) {s' : Shared} (x : Ext [] s s') : Fs D g L m news s' :=
  ⟨F.ext.trans (x.mono (by simp)), (let ⟨m₀, n, k⟩ := F.loc; ⟨m₀, n.keeps fun b o e => x.keep b o (by simp) e, k⟩), F.newL, fun p hp => Sh.at_keep (F.led p hp) fun o e => x.keep _ o (by simp) e, F.own, F.nd⟩
/-- a call that may change things told -/
theorem Fs.call (F : Fs D g L m news s) {D' : List Addr} {s' : Shared} (x : Ext D' s s') (h1 : 1 ∈ D' → 1 ∈ D) (hD : ∀ d ∈ D', d ∈ D ∨ g.heap.objs.size ≤ d) (hN : ∀ p ∈ news, p.1 ∉ D') : Fs D g L m news s' := by
  refine ⟨⟨fun b o hb e => x.keep b o (fun q => ?_) (F.ext.keep b o hb e), x.os.trans F.ext.os, fun i y e => x.gens i y (F.ext.gens i y e), fun h => x.bare (F.ext.bare h),
    fun b o e hd => ?_⟩, ?_, F.newL, fun p hp => Sh.at_keep (F.led p hp) fun o e => x.keep _ o (hN p hp) e, F.own, F.nd⟩
  · rcases hD b q with h | h
    · exact hb h
    · exact Nat.lt_irrefl _ (Nat.lt_of_lt_of_le (Heap.lt_size e) h)
  · obtain ⟨sl, e1⟩ := F.ext.soft b o e hd
    obtain ⟨sl', e2⟩ := x.soft b _ e1 hd
    exact ⟨sl', e2⟩
  · obtain ⟨m₀, ⟨o, es, ep, ho, hd, r⟩, k⟩ := F.loc
    obtain ⟨sl, e⟩ := x.soft L o ho ⟨es, ep, hd⟩
    exact ⟨m₀, ⟨_, es, ep, e, hd, r⟩, k⟩
/-- a new object -/
theorem Fs.push (F : Fs D g L m news s) (o : Obj) (x : Sh) (n : Nat) (hx : x.at (s.heap.push o) s.heap.objs.size) :
    Fs D g L m ((s.heap.objs.size, x) :: news) { s with heap := s.heap.push o, toks := n } := by
  have k : Ext [] s { s with heap := s.heap.push o, toks := n } := Ext.heap (fun b o' _ e => Heap.get?_push_of_some _ e)
  have F' := F.step k
  refine ⟨F'.ext, F'.loc, F'.newL, fun p hp => ?_, fun p hp => ?_, ?_⟩
  · rcases List.mem_cons.mp hp with rfl | hp
    · exact hx
    · exact F'.led p hp
  · rcases List.mem_cons.mp hp with rfl | hp
    · exact .inr (Nat.le_of_lt (Nat.lt_of_le_of_lt F.newL F.ltL))
    · exact F.own p hp
  · have h1 := F.nd
    have h2 := F.ltL
    have h3 : ∀ a ∈ news.map (·.1), a < s.heap.objs.size := fun a ha => by
      obtain ⟨p, hp, rfl⟩ := List.mem_map.mp ha
      exact F.lt hp
    rw [List.nodup_cons] at h1 ⊢
    refine ⟨fun q => ?_, ?_⟩
    · rcases List.mem_cons.mp q with q | q
      · exact absurd q (Nat.ne_of_lt h2)
      · exact h1.1 q
    · show (s.heap.objs.size :: news.map (·.1)).Nodup
      rw [List.nodup_cons]
      exact ⟨fun q => Nat.lt_irrefl _ (h3 _ q), h1.2⟩
/-- a local name stored -/
theorem Fs.setL (F : Fs D g L m news s) {m' : Str → Option Value} {h' : Heap} (hn : h'.Ns L m') (hs : Heap.SameBut L s.heap h') (n : Nat) : Fs D g L m' news { s with heap := h', toks := n } :=
  ⟨F.ext.but (W := [L]) (fun b o hb e => (hs.2 b (by simpa using hb)).trans e) (fun b hb => .inr (List.mem_singleton.mp hb ▸ F.newL)),
   ⟨m', hn, fun _ _ e => e⟩, F.newL, fun p hp => Sh.at_keep (F.led p hp) fun o e => (hs.2 p.1 (F.ne hp)).trans e, F.own, F.nd⟩
theorem nodup_ne {a b : Addr} {l : List Addr} (h : (a :: l).Nodup) (hb : b ∈ l) : a ≠ b := fun e => (List.nodup_cons.mp h).1 (e ▸ hb)
/-- a ledger's object changed -/
theorem Fs.upd (F : Fs D g L m news s) {a : Addr} {pre post : List (Addr × Sh)} {x x' : Sh} {h' : Heap} (e : news = pre ++ (a, x) :: post) (hx : x'.at h' a) (hs : Heap.SameBut a s.heap h') (n : Nat) :
    Fs D g L m (pre ++ (a, x') :: post) { s with heap := h', toks := n } := by
  subst e
  have hm : (a, x) ∈ pre ++ (a, x) :: post := by simp
  have hown := F.own _ hm
  have hnd : (pre.map (·.1) ++ a :: post.map (·.1)).Nodup := by have := (List.nodup_cons.mp F.nd).2; simpa using this
  have hne : ∀ p ∈ pre ++ post, p.1 ≠ a := fun p hp q => by
    rw [List.nodup_append] at hnd
    obtain ⟨_, n2, n3⟩ := hnd
    rcases List.mem_append.mp hp with hp | hp
    · exact n3 _ (List.mem_map_of_mem hp) a (by simp) q
    · exact (List.nodup_cons.mp n2).1 (q ▸ List.mem_map_of_mem hp)
  refine ⟨F.ext.but (W := [a]) (fun b o hb e => (hs.2 b (by simpa using hb)).trans e) (fun b hb => List.mem_singleton.mp hb ▸ hown),
    (let ⟨m₀, n, k⟩ := F.loc; ⟨m₀, n.sameBut hs fun q => F.ne hm q.symm, k⟩), F.newL, fun p hp => ?_, fun p hp => ?_, ?_⟩
  · rcases List.mem_append.mp hp with h | h
    · exact Sh.at_keep (F.led p (List.mem_append_left _ h)) fun o e => (hs.2 _ (hne p (List.mem_append_left _ h))).trans e
    · rcases List.mem_cons.mp h with rfl | h
      · exact hx
      · exact Sh.at_keep (F.led p (List.mem_append_right _ (List.mem_cons_of_mem _ h))) fun o e => (hs.2 _ (hne p (List.mem_append_right _ h))).trans e
  · rcases List.mem_append.mp hp with h | h
    · exact F.own p (List.mem_append_left _ h)
    · rcases List.mem_cons.mp h with rfl | h
      · exact hown
      · exact F.own p (List.mem_append_right _ (List.mem_cons_of_mem _ h))
  · have := F.nd
    simpa using this
/-- the ledger made shorter -/
theorem Fs.drop (F : Fs D g L m news s) {news' : List (Addr × Sh)} (h : news'.Sublist news) : Fs D g L m news' s :=
  ⟨F.ext, F.loc, F.newL, fun p hp => F.led p (h.subset hp), fun p hp => F.own p (h.subset hp), F.nd.sublist ((h.map _).cons_cons L)⟩
theorem Fs.get (F : Fs D g L m news s) {a : Addr} {x : Sh} (h : (a, x) ∈ news) : x.at s.heap a := F.led _ h
theorem Fs.old (F : Fs D g L m news s) {b : Addr} {o : Obj} (hb : b ∉ D) (e : g.heap.get? b = some o) : s.heap.get? b = some o := F.ext.keep b o hb e
end

/-- room for d frames and u units of C -/
structure Cx (A : Around) (d u : Nat) : Prop where
  hh : A.handled = none
  dp : A.depth + d < recursionLimit
  un : A.units + u < cLine
theorem Cx.mono {A : Around} {d u d' u' : Nat} (C : Cx A d u) (h : d' ≤ d) (h' : u' ≤ u) : Cx A d' u' := ⟨C.hh, by have := C.dp; omega, by have := C.un; omega⟩
theorem Cx.deeper {A : Around} {d u : Nat} {env : Env} (C : Cx A (d + 1) (u + 3)) : Cx (A.deeper env) d u :=
  ⟨C.hh, by have := C.dp; show A.depth + 1 + d < _; omega, by have := C.un; show A.units + 3 + u < _; omega⟩
theorem Cx.in1 {A : Around} {d u : Nat} (C : Cx A d (u + 1)) : Cx A.in1 d u := ⟨C.hh, C.dp, by have := C.un; show A.units + 1 + u < _; omega⟩

def retOf : Flow → Value
  | .ret v => v
  | _ => .none

/-- a def called: its frame stands -/
theorem callF {prog : Program} {w : World} {A : Around} {s : Shared} {R : Result → Shared → Prop} {a : Addr} {o : Obj} {fd : FuncData} {body : List Stmt} {args : Args} {binds : List (Str × Value)} (D : List Addr)
    (hroom : A.depth < recursionLimit) (ho : s.heap.get? a = some o) (hdata : o.data = .func fd) (hlim : s.heap.NoLimit) (hcd : s.heap.CodeRec fd.code fd.qualname)
    (hbody : fd.body = .stmts body) (hbind : BindsTo s fd args binds)
    (hcell : ∀ x ∈ fd.scope.names, x.2 ≠ .cell) (hloc : ∀ x ∈ binds, fd.scope.names.lookup x.1 = some .local)
    (hco : fd.scope.isCoroutine = false) (hgen : fd.scope.isGenerator = false) (hk : fd.scope.kind = .function)
    (h : ∀ s₁, Fs D s s.heap.objs.size (fun x => binds.reverse.lookup x) [] s₁ →
      wpAny (model prog w) (A.deeper (callEnv fd s.heap.objs.size a)) (execs body (callEnv fd s.heap.objs.size a)) (fun f s' => R (.ok (.ret (retOf f))) s')
        (fun e s' => wpAny (model prog w) (A.deeper (callEnv fd s.heap.objs.size a)) (leaving (callEnv fd s.heap.objs.size a) e) (fun _ s'' => R (.error e) s'') (fun e' s'' => R (.error e') s'') s') s₁) :
    codeAny (model prog w) A (.call (.ref a) args) R s := by
  refine codeAny_call_def hroom ho hdata hlim hcd hbody hbind hcell hloc (fun h₁ hn hk₁ => ?_) hco hgen hk
  refine wpAny_mono (h { s with heap := h₁, toks := s.toks + binds.length } ⟨(Ext.heap (fun b o _ e => hk₁ b o e)).mono (by simp), ⟨_, hn, fun _ _ e => e⟩, Nat.le_refl _, by simp, by simp, by simp⟩) (fun f s' x => ?_) fun _ _ x => x
  cases f <;> exact x

/-- the locals as a list -/
def lk (l : List (Str × Value)) (x : Str) : Option Value := l.lookup x
def AllK (m : Str → Option Value) : List (Str × Value) → Prop
  | [] => True
  | p :: r => m p.1 = some p.2 ∧ AllK m r
theorem lk_le {m : Str → Option Value} : ∀ {l : List (Str × Value)}, AllK m l → ∀ x v, lk l x = some v → m x = some v
  | [], _, _, _, e => by cases e
  | (y, u) :: r, h, x, v, e => by
    unfold lk at e
    rw [List.lookup_cons] at e
    cases q : x == y with
    | true => rw [q] at e; cases e; rw [eq_of_beq q]; exact h.1
    | false => rw [q] at e; exact lk_le h.2 x v e
theorem Fs.as {D : List Addr} {g s : Shared} {L : Addr} {m : Str → Option Value} {news : List (Addr × Sh)} (F : Fs D g L m news s) (l : List (Str × Value)) (h : AllK m l) : Fs D g L (lk l) news s := F.weak (lk_le h)

/-- what the text's top has made -/
structure Wo (K : Frag) (h : Heap) : Prop where
  X : K.In h
  g : ∃ mg, h.Ns mainGlobals mg
  b : ∃ mb, h.Ns builtinsNs mb ∧ ∀ x : Str, x ≠ "__name__" → mb x = bootBuiltins x
  lim : h.NoLimit
/-- addresses that may change: the one table, and those behind the top's -/
def okD (P k : Nat) (D : List Addr) : Prop := ∀ b ∈ D, b = P ∨ b = 1 ∨ k ≤ b
/-- the top's own addresses -/
structure Small (K : Frag) (P k : Nat) : Prop where
  keys : (K.all fun p => decide (p.1 < k) && (p.1 != P && p.1 != 1)) = true
  a1 : mainGlobals < k ∧ mainGlobals ≠ P ∧ mainGlobals ≠ 1
  a2 : builtinsNs < k ∧ builtinsNs ≠ P ∧ builtinsNs ≠ 1
  a3 : cStatics < k ∧ cStatics ≠ P ∧ cStatics ≠ 1
theorem notD {P k : Nat} {D : List Addr} {b : Addr} (h : okD P k D) (h1 : b < k) (h2 : b ≠ P ∧ b ≠ 1) : b ∉ D := fun hb => by
  rcases h b hb with e | e | e
  · exact h2.1 e
  · exact h2.2 e
  · exact absurd h1 (Nat.not_lt.mpr e)
theorem Wo.ext {K : Frag} {P k : Nat} {D : List Addr} {s s' : Shared} (W : Wo K s.heap) (S : Small K P k) (hD : okD P k D) (x : Ext D s s') : Wo K s'.heap where
  X := fun a o e => by
    have h := List.all_eq_true.mp S.keys (a, o) (mem_of_lookupK e)
    simp only [Bool.and_eq_true, decide_eq_true_eq, bne_iff_ne] at h
    exact x.keep a o (notD hD h.1 h.2) (W.X a o e)
  g := let ⟨mg, n⟩ := W.g; ⟨mg, n.at' fun o e => x.keep _ o (notD hD S.a1.1 S.a1.2) e⟩
  b := let ⟨mb, n, r⟩ := W.b; ⟨mb, n.at' fun o e => x.keep _ o (notD hD S.a2.1 S.a2.2) e, r⟩
  lim := let ⟨mc, n, r⟩ := W.lim; ⟨mc, n.at' fun o e => x.keep _ o (notD hD S.a3.1 S.a3.2) e, r⟩

def Ret (Post : Value → Shared → Prop) (r : Result) (s' : Shared) : Prop := ∃ v, r = .ok (.ret v) ∧ Post v s'
theorem use {prog : Program} {w : World} {A : Around} {s : Shared} {E : Value → Shared → Prop} {Q : Value → Shared → Prop} {Post : Value → Shared → Prop} {f : Value} {vs : List Value} {kw : List (Str × Value)}
    (h : codeAny (model prog w) A (.call f ⟨vs, kw⟩) (Ret Post) s) (hQ : ∀ v s', Post v s' → Q v s') : wpAny (model prog w) A (call f vs kw) Q E s :=
  wpAny_call (codeAny_mono h fun r s' x => by obtain ⟨v, rfl, p⟩ := x; exact hQ v s' p)

section
variable {M : Model} {A : Around} {E : Value → Shared → Prop} {D : List Addr} {g s : Shared} {L : Addr} {m : Str → Option Value} {news : List (Addr × Sh)} {env : Env} {x : Str} {pos : Pos} {v : Value}
theorem ld {Q : Value → Shared → Prop} (F : Fs D g L m news s) (hv : m x = some v) (h : Q v s) (hL : env.locals = L := by rfl) (hk : env.scope.kind = .function := by rfl)
    (hl : env.kindOf x = some .local := by rfl) (hd : (x == ("__debug__" : Str)) = false := by rfl) : wpAny M A (eval (.Name x pos) env) Q E s := by
  subst hL
  obtain ⟨m₀, n, k⟩ := F.loc
  exact wpAny_Name (wpAny_loadName_local hk hl n (k _ _ hv) h) hd
theorem ldG {K : Frag} {k P : Nat} {Q : Value → Shared → Prop} (F : Fs D g L m news s) (W : Wo K g.heap) (S : Small K P k) (hD : okD P k D) (e : nsIn K mainGlobals x = some (some v)) (h : Q v s)
    (hk : env.scope.kind = .function := by rfl) (hx : env.kindOf x = some .globalImplicit := by rfl) (hg : env.globals = mainGlobals := by rfl) (hd : (x == ("__debug__" : Str)) = false := by rfl) :
    wpAny M A (eval (.Name x pos) env) Q E s := by
  have W' := W.ext S hD F.ext
  obtain ⟨mg, n⟩ := W'.g
  exact Name_function_global hk hx (loadGlobal_global (hg.symm ▸ n) (mg_of W'.X n e) h) hd
theorem ldGS {K : Frag} {k P : Nat} {Q : Value → Shared → Prop} {y : Str} {t : Tok} (F : Fs D g L m news s) (W : Wo K g.heap) (S : Small K P k) (hD : okD P k D) (e : nsIn K mainGlobals x = some (some (.str y t))) (h : Q (.str ⟨y.cps.toList.toArray⟩ t) s)
    (hk : env.scope.kind = .function := by rfl) (hx : env.kindOf x = some .globalImplicit := by rfl) (hg : env.globals = mainGlobals := by rfl) (hd : (x == ("__debug__" : Str)) = false := by rfl) :
    wpAny M A (eval (.Name x pos) env) Q E s := ldG F W S hD e h hk hx hg hd
theorem ldB {K : Frag} {k P : Nat} {Q : Value → Shared → Prop} (F : Fs D g L m news s) (W : Wo K g.heap) (S : Small K P k) (hD : okD P k D) (e : nsIn K mainGlobals x = some none) (hv : bootBuiltins x = some v) (h : Q v s) (hn : x ≠ "__name__" := by decide)
    (hk : env.scope.kind = .function := by rfl) (hx : env.kindOf x = some .globalImplicit := by rfl) (hg : env.globals = mainGlobals := by rfl) (hb : env.builtins = builtinsNs := by rfl) (hd : (x == ("__debug__" : Str)) = false := by rfl) :
    wpAny M A (eval (.Name x pos) env) Q E s := by
  have W' := W.ext S hD F.ext
  obtain ⟨mg, n⟩ := W'.g
  obtain ⟨mb, nb, hb'⟩ := W'.b
  exact Name_function_global hk hx (loadGlobal_builtin (hg.symm ▸ n) (mg_none_of W'.X n e) (hb.symm ▸ nb) ((hb' x hn).trans hv) h) hd
theorem st {Q : Unit → Shared → Prop} (F : Fs D g L m news s) (h : ∀ s', Fs D g L (fun y => if y = x then some v else m y) news s' → Q () s') (hL : env.locals = L := by rfl) (hk : env.scope.kind = .function := by rfl)
    (hl : env.kindOf x = some .local := by rfl) : wpAny M A (storeName env x v) Q E s := by
  subst hL
  obtain ⟨m₀, n, k⟩ := F.loc
  refine wpAny_storeName_local hl n (fun h' hn hs => h _ ((F.setL hn hs _).weak fun y u e => ?_)) (by rw [hk]; rfl)
  by_cases q : y = x
  · rw [if_pos q] at e ⊢; exact e
  · rw [if_neg q] at e ⊢; exact k y u e
end

section
variable {prog : Program} {w : World} {A : Around} {E : Value → Shared → Prop} {D : List Addr} {g s : Shared} {L : Addr} {m : Str → Option Value} {news : List (Addr × Sh)} {env : Env} {pos : Pos}
theorem nil_args {Q : List Value → Shared → Prop} (h : Q [] s) : wpAny (model prog w) A (spliced (backTo pos (starEach [] env))) Q E s := wpAny_pure h
theorem cons_args {e : Expr} {rest : List Expr} {Q : List Value → Shared → Prop}
    (h : wpAny (model prog w) A (eval e env) (fun v s₁ => wpAny (model prog w) A (spliced (backTo pos (starEach rest env))) (fun vs s₂ => Q (v :: vs) s₂) E s₁) E s)
    (he : starEach (e :: rest) env = (false, eval e env) :: starEach rest env := by rfl) : wpAny (model prog w) A (spliced (backTo pos (starEach (e :: rest) env))) Q E s := by
  rw [he]; exact Calls.spliced_cons h
/-- a call by positional arguments, the function known -/
theorem callW {K : Frag} {f : Value} {first : List Value} {e : Expr} {rest : List Expr} {Q : Value → Shared → Prop} (hk : keepIn K f = true)
    (h : wpAny (model prog w) A (spliced (backTo pos (starEach (e :: rest) env))) (fun vs s₁ => K.In s₁.heap ∧ wpAny (model prog w) A (call f (first ++ vs)) Q E s₁) E s)
    (he : starEach (e :: rest) env = (false, eval e env) :: starEach rest env := by rfl) (hplain : (backTo pos (starEach rest env)).any (·.1) = false := by rfl) :
    wpAny (model prog w) A (callWith pos f first (backTo pos (starEach (e :: rest) env)) []) Q E s := by
  rw [he] at h ⊢
  exact callWith_of (P := fun h => K.In h) (by show ((false || (backTo pos (starEach rest env)).any (·.1)) || false) = false; rw [hplain]; rfl) (keeps_K hk) (evalArgs_plain h)
theorem callW0 {K : Frag} {f : Value} {first : List Value} {Q : Value → Shared → Prop} (hk : keepIn K f = true) (h : K.In s.heap) (hc : wpAny (model prog w) A (call f (first ++ [])) Q E s) :
    wpAny (model prog w) A (callWith pos f first (backTo pos (starEach [] env)) []) Q E s :=
  callWith_of (P := fun h => K.In h) rfl (keeps_K hk) (evalArgs_nil3 ⟨h, hc⟩)
theorem callB {id : String} {first : List Value} {e : Expr} {rest : List Expr} {Q : Value → Shared → Prop}
    (h : wpAny (model prog w) A (spliced (backTo pos (starEach (e :: rest) env))) (fun vs s₁ => wpAny (model prog w) A (call (.builtin id) (first ++ vs)) Q E s₁) E s)
    (he : starEach (e :: rest) env = (false, eval e env) :: starEach rest env := by rfl) (hplain : (backTo pos (starEach rest env)).any (·.1) = false := by rfl) :
    wpAny (model prog w) A (callWith pos (.builtin id) first (backTo pos (starEach (e :: rest) env)) []) Q E s := by
  rw [he] at h ⊢
  exact callWith_builtin (by show (false || (backTo pos (starEach rest env)).any (·.1)) = false; rw [hplain]; rfl) (evalArgs_plain h)
end

section
variable {prog : Program} {w : World} {A : Around} {D : List Addr} {g s : Shared} {L : Addr} {m : Str → Option Value} {news : List (Addr × Sh)} {env : Env} {pos px : Pos} {R : Result → Shared → Prop}
/-- what a turn's end must be -/
def Turn (R : Result → Shared → Prop) (N : Shared → Prop) (f : Flow) (s : Shared) : Prop := match f with
  | .next | .cont => N s
  | .brk => R (.ok .next) s
  | .ret v => R (.ok (.ret v)) s
theorem Fs.raw (F : Fs D g L m news s) {a : Addr} {items : Array Value} (pre post : List (Addr × Sh)) (e : news = pre ++ (a, .list items) :: post) : ∃ n, Fs D g L m (pre ++ (a, .raw (seqObj "list" items n)) :: post) s := by
  have hm : (a, Sh.list items) ∈ news := by rw [e]; simp
  obtain ⟨n, hn⟩ := F.get hm
  refine ⟨n, ⟨F.ext, F.loc, F.newL, fun p hp => ?_, fun p hp => ?_, ?_⟩⟩
  · rcases List.mem_append.mp hp with h | h
    · exact F.led p (e ▸ List.mem_append_left _ h)
    · rcases List.mem_cons.mp h with rfl | h
      · exact hn
      · exact F.led p (e ▸ List.mem_append_right _ (List.mem_cons_of_mem _ h))
  · rcases List.mem_append.mp hp with h | h
    · exact F.own p (e ▸ List.mem_append_left _ h)
    · rcases List.mem_cons.mp h with rfl | h
      · exact F.own (a, Sh.list items) hm
      · exact F.own p (e ▸ List.mem_append_right _ (List.mem_cons_of_mem _ h))
  · have := F.nd; rw [e] at this; simpa using this

/-- an iterator in the ledger moves on -/
theorem Fs.iter {I : Addr} {o : Obj} (F : Fs D g L m ((I, .raw o) :: news) s) {h' : Heap} {tk : Nat} {o' : Obj} (ho : h'.get? I = some o') (hk : ∀ b o, b ≠ I → s.heap.get? b = some o → h'.get? b = some o) :
    Fs D g L m ((I, .raw o') :: news) { s with heap := h', toks := tk } := by
  have hIL : I ≠ L := F.ne (p := (I, .raw o)) (.head _)
  have hown := F.own (I, .raw o) (.head _)
  have hnd : (I :: news.map (·.1)).Nodup := by have := (List.nodup_cons.mp F.nd).2; simpa using this
  refine ⟨F.ext.but (W := [I]) (fun b o hb e => hk b o (by simpa using hb) e) (fun b hb => List.mem_singleton.mp hb ▸ hown), (let ⟨m₀, n, k⟩ := F.loc; ⟨m₀, n.at' fun o e => hk _ o (Ne.symm hIL) e, k⟩), F.newL, fun p hp => ?_, fun p hp => ?_, by simpa using F.nd⟩
  · rcases List.mem_cons.mp hp with rfl | h
    · exact ho
    · exact Sh.at_keep (F.led p (List.mem_cons_of_mem _ h)) fun o e => hk _ o (Ne.symm (nodup_ne hnd (List.mem_map_of_mem h))) e
  · rcases List.mem_cons.mp hp with rfl | h
    · exact hown
    · exact F.own p (List.mem_cons_of_mem _ h)

/-- an iterator in the ledger is lost -/
theorem Fs.lose {I : Addr} {x : Sh} (F : Fs D g L m ((I, x) :: news) s) {h' : Heap} {tk : Nat} (hk : ∀ b o, b ≠ I → s.heap.get? b = some o → h'.get? b = some o) :
    Fs D g L m news { s with heap := h', toks := tk } := by
  have hIL : I ≠ L := F.ne (p := (I, x)) (.head _)
  have hown := F.own (I, x) (.head _)
  have hnd : (I :: news.map (·.1)).Nodup := by have := (List.nodup_cons.mp F.nd).2; simpa using this
  refine ⟨F.ext.but (W := [I]) (fun b o hb e => hk b o (by simpa using hb) e) (fun b hb => List.mem_singleton.mp hb ▸ hown), (let ⟨m₀, n, k⟩ := F.loc; ⟨m₀, n.at' fun o e => hk _ o (Ne.symm hIL) e, k⟩), F.newL, fun p h => ?_, fun p h => F.own p (List.mem_cons_of_mem _ h), F.nd.sublist ((List.sublist_cons_self _ _).cons_cons L)⟩
  · exact Sh.at_keep (F.led p (List.mem_cons_of_mem _ h)) fun o e => hk _ o (Ne.symm (nodup_ne hnd (List.mem_map_of_mem h))) e

theorem forW {x : Str} {body : List Stmt} {I : Addr} {fp wr : List Addr} {n : Nat} {P : Nat → Value → Prop} {St : Nat → Heap → Prop} {o : Obj} (J : Nat → (Str → Option Value) → List (Addr × Sh) → Prop) (fz : List (Addr × Obj))
    (W : Walks prog w A I fp wr n P St) (hwr : ∀ b ∈ wr, b = I) (hfp : ∀ b ∈ fp, b = I ∨ b ∈ fz.map (·.1)) (hI : ∀ i h, St i h → ∃ o, h.get? I = some o)
    (F : Fs D g L m ((I, .raw o) :: news) s) (hst : St 0 s.heap) (h0 : J 0 m news)
    (hfz : ∀ i m news s o, J i m news → Fs D g L m ((I, .raw o) :: news) s → ∀ p ∈ fz, s.heap.get? p.1 = some p.2)
    (hL : env.locals = L) (hk : env.scope.kind = .function) (hx : env.kindOf x = some .local)
    (step : ∀ i v m news o s E', i < n → P i v → J i m news → Fs D g L (fun y => if y = x then some v else m y) ((I, .raw o) :: news) s →
      wpAny (model prog w) A (execs body env) (Turn R fun s' => ∃ m' news', Fs D g L m' ((I, .raw o) :: news') s' ∧ J (i + 1) m' news') E' s)
    (fin : ∀ m news s, J n m news → Fs D g L m news s → R (.ok .next) s) :
    codeAny (model prog w) A (.forLoop (.Name x px) (.ref I) body [] env) R s := by
  refine codeAny_forLoop (fun k s' => ∃ i m' news' o', Fs D g L m' ((I, .raw o') :: news') s' ∧ St i s'.heap ∧ J i m' news' ∧ i ≤ n ∧ k = n + 1 - i) ?_ (n + 1) ⟨0, m, news, o, F, hst, h0, Nat.zero_le _, rfl⟩
  rintro k s' ⟨i, m', news', o', F', hst', hJ, hi, rfl⟩
  by_cases hlt : i < n
  · refine W.item i _ _ _ hlt hst' fun v h₁ tk₁ hP hst₁ hk₁ => ?_
    obtain ⟨o₁, ho₁⟩ := hI _ _ hst₁
    have F₁ := F'.iter (tk := tk₁) ho₁ fun b o hb e => hk₁ b o (fun q => hb (hwr b q)) e
    refine wpAny_assign_Name (st F₁ (fun s₂ F₂ => ?_) hL hk hx)
    have key : ∀ s₃ m₃ news₃, Fs D g L m₃ ((I, .raw o₁) :: news₃) s₃ → J (i + 1) m₃ news₃ → St (i + 1) s₃.heap := fun s₃ m₃ news₃ F₃ hJ₃ => by
      refine W.frame _ _ _ hst₁ fun b hb o e => ?_
      rcases hfp b hb with rfl | hb
      · rw [ho₁] at e; cases e; exact F₃.get (.head _)
      · obtain ⟨p, hp, rfl⟩ := List.mem_map.mp hb
        have e1 := hfz _ _ _ _ _ hJ F₁ p hp
        rw [show ({ s' with heap := h₁, toks := tk₁ } : Shared).heap = h₁ from rfl, e] at e1
        cases e1
        exact hfz _ _ _ _ _ hJ₃ F₃ p hp
    refine wpAny_mono (step i v m' news' o₁ s₂ _ hlt hP hJ F₂) (fun f s₃ h₃ => ?_) fun _ _ e => e
    cases f with
    | next => obtain ⟨m₃, news₃, F₃, hJ₃⟩ := h₃; exact ⟨n + 1 - (i + 1), by omega, i + 1, m₃, news₃, o₁, F₃, key _ _ _ F₃ hJ₃, hJ₃, hlt, rfl⟩
    | cont => obtain ⟨m₃, news₃, F₃, hJ₃⟩ := h₃; exact ⟨n + 1 - (i + 1), by omega, i + 1, m₃, news₃, o₁, F₃, key _ _ _ F₃ hJ₃, hJ₃, hlt, rfl⟩
    | brk => exact h₃
    | ret v => exact h₃
  · have hin : i = n := by omega
    subst hin
    refine W.done _ _ _ hst' fun h₁ tk₁ hk₁ => wpAny_execs_nil ?_
    exact fin _ _ _ hJ (F'.lose fun b o hb e => hk₁ b o (fun q => hb (hwr b q)) e)
end

section
variable {prog : Program} {w : World} {A : Around} {D : List Addr} {g s : Shared} {L : Addr} {m : Str → Option Value} {news : List (Addr × Sh)} {env : Env} {pos px : Pos} {R : Result → Shared → Prop} {E : Value → Shared → Prop}

/-- another frame over this one: the one below stands in the ledger -/
theorem Fs.under (F : Fs D g L m news s) : ∃ oL, s.heap.get? L = some oL ∧ (∀ h : Heap, h.get? L = some oL → ∃ m₀, h.Ns L m₀ ∧ ∀ x v, m x = some v → m₀ x = some v) ∧
    ∀ C s' m', Ext [] s s' → s.heap.objs.size ≤ C → s'.heap.Ns C m' → Fs D g C m' ((L, .raw oL) :: news) s' := by
  obtain ⟨m₀, n, k⟩ := F.loc
  obtain ⟨oL, es, ep, ho, hd, hs, hf⟩ := n
  refine ⟨oL, ho, fun h e => ⟨m₀, ⟨oL, es, ep, e, hd, hs, hf⟩, k⟩, fun C s' m' x hC hn => ?_⟩
  have F' := F.step x
  refine ⟨F'.ext, ⟨m', hn, fun _ _ e => e⟩, Nat.le_trans F.newL (Nat.le_trans (Nat.le_of_lt F.ltL) hC), fun p hp => ?_, fun p hp => ?_, ?_⟩
  · rcases List.mem_cons.mp hp with rfl | hp
    · exact x.keep _ _ (by simp) ho
    · exact F'.led p hp
  · rcases List.mem_cons.mp hp with rfl | hp
    · exact .inr F.newL
    · exact F.own p hp
  · show (C :: L :: news.map (·.1)).Nodup
    rw [List.nodup_cons]
    refine ⟨fun q => ?_, F.nd⟩
    rcases List.mem_cons.mp q with rfl | q
    · exact absurd F.ltL (Nat.not_lt.mpr hC)
    · obtain ⟨p, hp, rfl⟩ := List.mem_map.mp q
      exact absurd (F.lt hp) (Nat.not_lt.mpr hC)
theorem Fs.back {C : Addr} {mC : Str → Option Value} {pre : List (Addr × Sh)} {oL : Obj} (F : Fs D g C mC (pre ++ (L, .raw oL) :: news) s) (hL : ∀ h : Heap, h.get? L = some oL → ∃ m₀, h.Ns L m₀ ∧ ∀ x v, m x = some v → m₀ x = some v) (hn : g.heap.objs.size ≤ L) :
    Fs D g L m (pre ++ news) s := by
  have hm : (L, Sh.raw oL) ∈ pre ++ (L, Sh.raw oL) :: news := by simp
  have hnd := (List.nodup_cons.mp F.nd).2
  rw [List.map_append, List.map_cons] at hnd
  refine ⟨F.ext, hL _ (F.get hm), hn, fun p hp => F.led p ?_, fun p hp => F.own p ?_, ?_⟩
  · rcases List.mem_append.mp hp with h | h
    · exact List.mem_append_left _ h
    · exact List.mem_append_right _ (List.mem_cons_of_mem _ h)
  · rcases List.mem_append.mp hp with h | h
    · exact List.mem_append_left _ h
    · exact List.mem_append_right _ (List.mem_cons_of_mem _ h)
  · rw [List.map_append]
    exact (List.perm_middle.nodup_iff).mp hnd

theorem Fs.swap2 {a b : Addr × Sh} (F : Fs D g L m (a :: b :: news) s) : Fs D g L m (b :: a :: news) s :=
  ⟨F.ext, F.loc, F.newL, fun p hp => F.led p (by simp at hp ⊢; rcases hp with h | h | h <;> simp [h]), fun p hp => F.own p (by simp at hp ⊢; rcases hp with h | h | h <;> simp [h]),
   (((List.Perm.swap a b news).map (·.1)).cons L).nodup_iff.mpr F.nd⟩

theorem Fs.but {C : Addr} (F : Fs D g L m news s) (h1 : g.heap.objs.size ≤ C) (h2 : ∀ p ∈ news, p.1 ≠ C) (h3 : C ≠ L) {h' : Heap} (hs : Heap.SameBut C s.heap h') : Fs D g L m news { s with heap := h' } := by
  refine ⟨F.ext.but (W := [C]) (fun b o hb e => (hs.2 b (by simpa using hb)).trans e) (fun b hb => .inr (List.mem_singleton.mp hb ▸ h1)), (let ⟨m₀, n, k⟩ := F.loc; ⟨m₀, n.sameBut hs (Ne.symm h3), k⟩), F.newL,
    fun p hp => Sh.at_keep (F.led p hp) fun o e => (hs.2 _ (h2 p hp)).trans e, F.own, F.nd⟩

/-- what a comprehension does, turn by turn -/
theorem compCore {elt iter : Expr} {x : Str} {scope : Scope} {cl : List (Str × Addr)} {I : Addr} {fp wr : List Addr} {n : Nat} {P : Nat → Value → Prop} {St : Nat → Heap → Prop} {o : Obj}
    (J : Nat → Array Value → List (Addr × Sh) → Prop) (fz : List (Addr × Obj)) {RR : Value → Addr → Result → Shared → Prop}
    (W : Walks prog w A I fp wr n P St) (hwr : ∀ b ∈ wr, b = I) (hfp : ∀ b ∈ fp, b = I ∨ b ∈ fz.map (·.1)) (hI : ∀ i h, St i h → ∃ o, h.get? I = some o)
    (F : Fs D g L m ((I, .raw o) :: news) s) (hst : St 0 s.heap) (h0 : J 0 #[] news) (hn : n ≤ 100000)
    (hfz : ∀ i ys C mC news' pre s' , J i ys news' → Fs D g C mC (pre ++ news') s' → ∀ p ∈ fz, s'.heap.get? p.1 = some p.2)
    (hcell : ∀ y ∈ scope.names, y.2 ≠ .cell) (hkind : scope.kind = .function) (hx : scope.names.lookup x = some .local)
    (step : ∀ i v ys C acc oL news' o s' E', i < n → P i v → J i ys news' → ys.size = i →
      Fs D g C (fun y => if y = x then some v else none) ((I, .raw o) :: (acc, .list ys) :: (L, .raw oL) :: news') s' →
      wpAny (model prog w) A (eval elt (compEnvC scope cl C env)) (fun y s'' => ∃ news'', Fs D g C (fun y => if y = x then some v else none) ((I, .raw o) :: (acc, .list ys) :: (L, .raw oL) :: news'') s'' ∧ J (i + 1) (ys.push y) news'') E' s')
    (fin : ∀ C acc ys news' s' m', J n ys news' → Fs D g L m ((acc, .list ys) :: news') s' → s'.heap.Ns C m' → g.heap.objs.size ≤ C → (∀ p ∈ (acc, Sh.list ys) :: news', p.1 ≠ C) → C ≠ L → RR (.ref acc) C (.ok .next) s') :
    wpAny (model prog w) A (newList []) (fun acc s₃ => wpAny (model prog w) A (newFunctionEnv scope env.globals cl [] env.qual none .none (some env)) (fun cenv s₄ =>
      codeAny (model prog w) A (.compStart (.ListComp elt [⟨.Name x px, iter, [], 0⟩] scope pos) 0 (.ref I) acc { cenv with scope := relabel scope env }) (RR acc cenv.locals) s₄) E s₃) E s := by
  refine wpAny_newObj_type (wpAny_newFunctionEnv hcell (by intro y hy; simp at hy) (fun h₁ hns₁ hsb₁ => ?_) hkind)
  dsimp only at hns₁ hsb₁ ⊢
  have F1 : Fs D g L m ((s.heap.objs.size, .list #[]) :: (I, .raw o) :: news) { s with heap := s.heap.push { cls := .type "list", dict := none, data := .seq ([] : List Value).toArray }, toks := s.toks } :=
    F.push _ (.list #[]) _ ⟨0, Heap.get?_push_size _ rfl⟩
  obtain ⟨oL, hoL, hback, hund⟩ := F1.swap2.under
  have hC : s.heap.objs.size + 1 = (s.heap.push { cls := .type "list", dict := none, data := .seq ([] : List Value).toArray }).objs.size := by rw [Heap.size_push]
  have hst₁ : St 0 h₁ := W.frame _ _ _ hst fun b _ o e => hsb₁.extBut b o (by rw [← hC]; exact Nat.ne_of_lt (Nat.lt_succ_of_lt (Heap.lt_size e))) (Heap.get?_push_of_some _ (Heap.get?_push_of_some _ e))
  generalize hH : (s.heap.push { cls := .type "list", dict := none, data := .seq ([] : List Value).toArray }) = H at *
  have hx1 : Ext [] { s with heap := H, toks := s.toks } { s with heap := h₁, toks := s.toks + ([] : List (Str × Value)).length } :=
    Ext.heap (s := { s with heap := H, toks := s.toks }) fun b o _ e => hsb₁.extBut b o (Nat.ne_of_lt (Heap.lt_size e)) (Heap.get?_push_of_some _ e)
  have F2 := hund H.objs.size _ _ hx1 (Nat.le_refl _) hns₁
  generalize hs₃ : ({ s with heap := h₁, toks := s.toks + ([] : List (Str × Value)).length } : Shared) = s₃ at F2 ⊢
  have hst3 : St 0 s₃.heap := by rw [← hs₃]; exact hst₁
  generalize H.objs.size = C at *
  generalize s.heap.objs.size = acc at *
  have hkC : (relabel scope env).names.lookup x = some .local := lookup_relabel_local hx
  have hnL : g.heap.objs.size ≤ L := F.newL
  have perm3 : ∀ {mC : Str → Option Value} {o : Obj} {ys : Array Value} {news : List (Addr × Sh)} {s : Shared}, Fs D g C mC ((L, .raw oL) :: (I, .raw o) :: (acc, .list ys) :: news) s → Fs D g C mC ((I, .raw o) :: (acc, .list ys) :: (L, .raw oL) :: news) s := fun F =>
    ⟨F.ext, F.loc, F.newL, fun p hp => F.led p (by simp at hp ⊢; rcases hp with h | h | h | h <;> simp [h]), fun p hp => F.own p (by simp at hp ⊢; rcases hp with h | h | h | h <;> simp [h]), by
      have := F.nd
      simp only [List.map_cons, List.nodup_cons, List.mem_cons, not_or] at this ⊢
      obtain ⟨⟨a1, a2, a3, a4⟩, ⟨b1, b2, b3⟩, ⟨c1, c2⟩, d1, e1⟩ := this
      exact ⟨⟨a2, a3, a1, a4⟩, ⟨c1, Ne.symm b1, c2⟩, ⟨Ne.symm b2, d1⟩, b3, e1⟩⟩
  have loop : codeAny (model prog w) A (.compLoop (.ListComp elt [⟨.Name x px, iter, [], 0⟩] scope pos) 0 (.ref I) (.ref acc) (compEnvC scope cl C env)) (RR (.ref acc) C) s₃ := by
    refine codeAny_compLoop_tests (fun k s' => ∃ i ys mC news' o', Fs D g C mC ((I, .raw o') :: (acc, .list ys) :: (L, .raw oL) :: news') s' ∧ St i s'.heap ∧ J i ys news' ∧ ys.size = i ∧ i ≤ n ∧ k = n + 1 - i) ?_ (n + 1)
      ⟨0, #[], _, news, o, perm3 F2, hst3, h0, rfl, Nat.zero_le _, rfl⟩
    rintro k s' ⟨i, ys, mC, news', o', F', hst', hJ, hys, hi, rfl⟩
    by_cases hlt : i < n
    · refine W.item i _ _ _ hlt hst' fun v h₂ tk₂ hP hst₂ hk₂ => ?_
      obtain ⟨o₂, ho₂⟩ := hI _ _ hst₂
      have F₁ := F'.iter (tk := tk₂) ho₂ fun b o hb e => hk₂ b o (fun q => hb (hwr b q)) e
      refine wpAny_assign_Name (st F₁ (fun s₂ F₂ => ?_) rfl hkind hkC)
      have F₂' : Fs D g C (fun y => if y = x then some v else none) ((I, .raw o₂) :: (acc, .list ys) :: (L, .raw oL) :: news') s₂ := F₂.weak fun y u e => by
        by_cases q : y = x
        · rw [if_pos q] at e ⊢; exact e
        · rw [if_neg q] at e; cases e
      refine wpAny_tests_nil ?_
      rw [if_pos rfl]
      refine wpAny_mono (step i v ys C acc oL news' o₂ s₂ _ hlt hP hJ hys F₂') (fun y s₄ h₄ => ?_) fun _ _ e => e
      obtain ⟨news'', F₄, hJ'⟩ := h₄
      have hsz : ys.size ≤ sizeLine := by rw [hys, sizeLine_eq]; omega
      have hm : (acc, Sh.list ys) ∈ (I, Sh.raw o₂) :: (acc, Sh.list ys) :: (L, Sh.raw oL) :: news'' := by simp
      refine wpAny_list_append_plain (hsz := hsz) (F₄.get hm) fun h₅ hl₅ hs₅ => ?_
      have F₅ := F₄.upd (pre := [(I, .raw o₂)]) (post := (L, .raw oL) :: news'') rfl (x' := .list (ys.push y)) hl₅ hs₅ s₄.toks
      refine ⟨n + 1 - (i + 1), by omega, i + 1, ys.push y, _, news'', o₂, F₅, ?_, hJ', by simp [hys], hlt, rfl⟩
      refine W.frame _ _ _ hst₂ fun b hb o e => ?_
      rcases hfp b hb with rfl | hb
      · rw [ho₂] at e; cases e; exact F₅.get (.head _)
      · obtain ⟨p, hp, rfl⟩ := List.mem_map.mp hb
        have e1 := hfz _ _ _ _ _ [(I, .raw o₂), (acc, .list ys), (L, .raw oL)] _ hJ F₁ p hp
        rw [show ({ s' with heap := h₂, toks := tk₂ } : Shared).heap = h₂ from rfl, e] at e1
        cases e1
        exact hfz _ _ _ _ _ [(I, .raw o₂), (acc, .list (ys.push y)), (L, .raw oL)] _ hJ' F₅ p hp
    · have hin : i = n := by omega
      subst hin
      refine W.done _ _ _ hst' fun h₂ tk₂ hk₂ => ?_
      have F₃ := F'.lose (h' := h₂) (tk := tk₂) fun b o hb e => hk₂ b o (fun q => hb (hwr b q)) e
      have hnd := F₃.nd
      simp only [List.map_cons, List.nodup_cons, List.mem_cons, not_or] at hnd
      obtain ⟨m₂, hn₂, _⟩ := F₃.loc
      refine fin C acc ys news' _ m₂ hJ (F₃.back (pre := [(acc, .list ys)]) hback hnL) hn₂ F₃.newL (fun p hp => ?_) hnd.1.2.1
      rcases List.mem_cons.mp hp with rfl | hp
      · exact fun q => hnd.1.1 q.symm
      · exact fun q => hnd.1.2.2 (q ▸ List.mem_map_of_mem hp)
  exact codeAny_compStart_list loop (W.self 0 _ _ _ hst3 loop)

/-- what a comprehension wants to know of its source and its element -/
def CompGo (prog : Program) (w : World) (A : Around) (D : List Addr) (g : Shared) (L : Addr) (env : Env) (x : Str) (scope : Scope) (cl : List (Str × Addr)) (elt : Expr) (fin : (Str → Option Value) → Addr → List (Addr × Sh) → Shared → Prop) (it : Value) (s₂ : Shared) : Prop :=
  ∃ (I : Addr) (fp wr : List Addr) (n : Nat) (P : Nat → Value → Prop) (St : Nat → Heap → Prop) (o : Obj) (m : Str → Option Value) (news : List (Addr × Sh)) (J : Nat → Array Value → List (Addr × Sh) → Prop) (fz : List (Addr × Obj)), it = .ref I ∧ Walks prog w A I fp wr n P St ∧ (∀ b ∈ wr, b = I) ∧ (∀ b ∈ fp, b = I ∨ b ∈ fz.map (·.1)) ∧ (∀ i h, St i h → ∃ o, h.get? I = some o) ∧
      Fs D g L m ((I, .raw o) :: news) s₂ ∧ St 0 s₂.heap ∧ J 0 #[] news ∧ n ≤ 100000 ∧
      (∀ i ys C mC news' pre s' , J i ys news' → Fs D g C mC (pre ++ news') s' → ∀ p ∈ fz, s'.heap.get? p.1 = some p.2) ∧
      (∀ i v ys C acc oL news' o s' E', i < n → P i v → J i ys news' → ys.size = i →
        Fs D g C (fun y => if y = x then some v else none) ((I, .raw o) :: (acc, .list ys) :: (L, .raw oL) :: news') s' →
        wpAny (model prog w) A (eval elt (compEnvC scope cl C env)) (fun y s'' => ∃ news'', Fs D g C (fun y => if y = x then some v else none) ((I, .raw o) :: (acc, .list ys) :: (L, .raw oL) :: news'') s'' ∧ J (i + 1) (ys.push y) news'') E' s') ∧
      (∀ acc ys news' s', J n ys news' → Fs D g L m ((acc, .list ys) :: news') s' → fin m acc ((acc, .list ys) :: news') s')

theorem comp_eval (_F0 : Fs D g L m news s) {elt iter : Expr} {x : Str} {scope : Scope} (cl : List (Str × Addr)) {Q : Value → Shared → Prop} (hclos : closureFor scope env = pure cl) (hcell : ∀ y ∈ scope.names, y.2 ≠ .cell) (hkind : scope.kind = .function)
    (hnames : ∀ y ∈ scope.names, y.2 = .local → scope.names.lookup y.1 = some .local) (hx : scope.names.lookup x = some .local)
    (h : wpAny (model prog w) A (eval iter env) (fun xv s₁ => wpAny (model prog w) A (pyIter xv) (fun it s₂ => CompGo prog w A D g L env x scope cl elt (fun _ acc _ s' => Q (.ref acc) s') it s₂) E s₁) E s)
    (hs : ∀ x, foldedSetIterable iter env x = pure x := by intro _; rfl) :
    wpAny (model prog w) A (eval (.ListComp elt [⟨.Name x px, iter, [], 0⟩] scope pos) env) Q E s := by
  rw [eval_ListComp]
  refine wpAny_comprehension_free (use := none) rfl hs hclos hkind hnames (wpAny_mono h (fun xv s₁ h₁ => wpAny_mono h₁ (fun it s₂ h₂ => ?_) fun _ _ e => e) fun _ _ e => e)
  obtain ⟨I, fp, wr, n, P, St, o, m, news, J, fz, rfl, W, hwr, hfp, hI, F, hst, h0, hn, hfz, step, fin⟩ := h₂
  refine compCore (RR := fun acc C => compPost (model prog w) A E none Q acc C) J fz W hwr hfp hI F hst h0 hn hfz hcell hkind hx step ?_
  intro C acc ys news' s' m' hJ hF hn' h1 h2 h3
  exact ⟨m', hn', fun h'' hs'' => fin acc ys news' _ hJ (hF.but h1 h2 h3 hs'')⟩

theorem comp_assign (_F0 : Fs D g L m news s) {elt iter : Expr} {x y : Str} {py spos : Pos} {scope : Scope} (cl : List (Str × Addr)) {Q : Flow → Shared → Prop}
    (hsw : swapsWith (.ListComp elt [⟨.Name x px, iter, [], 0⟩] scope pos) (some (.Name y py)) spos.line env = pure true)
    (hclos : closureFor scope env = pure cl) (hcell : ∀ y ∈ scope.names, y.2 ≠ .cell) (hkind : scope.kind = .function)
    (hnames : ∀ y ∈ scope.names, y.2 = .local → scope.names.lookup y.1 = some .local) (hx : scope.names.lookup x = some .local)
    (hy : env.kindOf y = some .local) (hkf : env.scope.kind = .function) (hL : env.locals = L)
    (h : wpAny (model prog w) A (eval iter env) (fun xv s₁ => wpAny (model prog w) A (pyIter xv) (fun it s₂ => CompGo prog w A D g L env x scope cl elt (fun m acc news' s' => ∀ s'', Fs D g L (fun z => if z = y then some (.ref acc) else m z) news' s'' → Q .next s'') it s₂) E s₁) E s)
    (hs : ∀ x, foldedSetIterable iter env x = pure x := by intro _; rfl) :
    wpAny (model prog w) A (exec (.Assign [.Name y py] (.ListComp elt [⟨.Name x px, iter, [], 0⟩] scope pos) spos) env) Q E s := by
  rw [exec_Assign_Name_used _ _ _ _ hsw]
  refine wpAny_bind (wpAny_standAt (wpAny_bind ?_))
  show wpAny _ A (do let _ ← comprehension (.ListComp elt [⟨.Name x px, iter, [], 0⟩] scope pos) scope env _ (newList []) false (eval iter env) (some (assign (.Name y py) env))) _ _ s
  refine wpAny_bind (wpAny_mono (wpAny_comprehension_free (use := some (assign (.Name y py) env)) (Q := fun _ s' => Q .next s') rfl hs hclos hkind hnames
    (wpAny_mono h (fun xv s₁ h₁ => wpAny_mono h₁ (fun it s₂ h₂ => ?_) fun _ _ e => e) fun _ _ e => e)) (fun _ s' hq => wpAny_pure (wpAny_pure hq)) fun _ _ e => e)
  obtain ⟨I, fp, wr, n, P, St, o, m, news, J, fz, rfl, W, hwr, hfp, hI, F, hst, h0, hn, hfz, step, fin⟩ := h₂
  refine compCore (RR := fun acc C => compPost (model prog w) A E (some (assign (.Name y py) env)) (fun _ s' => Q .next s') acc C) J fz W hwr hfp hI F hst h0 hn hfz hcell hkind hx step ?_
  intro C acc ys news' s' m' hJ hF hn' h1 h2 h3
  subst hL
  obtain ⟨m₀, n0, k0⟩ := hF.loc
  refine wpAny_assign_Name (wpAny_storeName_local hy n0 (fun h₂ hn₂ hs₂ => ⟨m', hn'.sameBut hs₂ h3, fun h' hs' => ?_⟩) (by rw [hkf]; rfl))
  have F2 := hF.setL hn₂ hs₂ (s'.toks + 1)
  refine fin acc ys news' _ hJ hF _ ((F2.but h1 h2 h3 hs').weak fun z u e => ?_)
  by_cases q : z = y
  · rw [if_pos q] at e ⊢; exact e
  · rw [if_neg q] at e ⊢; exact k0 z u e
end

/-- a text by its signs -/
def S (l : List Nat) : Str := ⟨l.toArray⟩
@[simp] theorem S_cps (l : List Nat) : (S l).cps.toList = l := rfl
@[simp] theorem S_len (l : List Nat) : (S l).length = l.length := by simp [S, Str.length]
theorem S_inj {a b : List Nat} (h : S a = S b) : a = b := by have := congrArg (fun x : Str => x.cps.toList) h; simpa using this
theorem S_eq {a b : List Nat} : (S a == S b) = decide (a = b) := by
  rw [← toList_beq]; simp only [S_cps]; rw [Bool.eq_iff_iff]; simp
theorem S_ne {a b : List Nat} : (S a != S b) = decide (a ≠ b) := by simp only [bne, S_eq]; simp
theorem S_app (a b : List Nat) : S a ++ S b = S (a ++ b) := by
  show Str.append (S a) (S b) = _; simp [Str.append, S]
theorem S_of (x : Str) : x = S x.cps.toList := rfl

/-- a slice by ones, as Python clamps it -/
def clip (n : Nat) (i : Int) : Nat := (max 0 (min (if i < 0 then i + n else i) n)).toNat
def loC (n : Nat) : Option Int → Nat
  | none => 0
  | some i => clip n i
def hiC (n : Nat) : Option Int → Nat
  | none => n
  | some i => clip n i
def sl {α : Type} (lo hi : Option Int) (l : List α) : List α := (l.drop (loC l.length lo)).take (hiC l.length hi - loC l.length lo)
theorem clip_le (n : Nat) (i : Int) : clip n i ≤ n := by unfold clip; omega
theorem loC_le (n : Nat) (o : Option Int) : loC n o ≤ n := by cases o with | none => exact Nat.zero_le _ | some i => exact clip_le n i
theorem hiC_le (n : Nat) (o : Option Int) : hiC n o ≤ n := by cases o with | none => exact Nat.le_refl _ | some i => exact clip_le n i
theorem clip_nn {n : Nat} {i : Int} (h : 0 ≤ i) : clip n i = min i.toNat n := by unfold clip; rw [if_neg (by omega)]; omega
theorem clip_neg {n : Nat} {i : Int} (h : i < 0) : clip n i = n - (-i).toNat := by unfold clip; rw [if_pos h]; omega
theorem sl_to {α : Type} (k : Nat) (l : List α) : sl none (some (k : Int)) l = l.take k := by
  simp only [sl, loC, hiC, List.drop_zero, Nat.sub_zero]; rw [clip_nn (by omega)]; simp only [Int.toNat_natCast]
  rcases Nat.le_total k l.length with h | h
  · rw [Nat.min_eq_left h]
  · rw [Nat.min_eq_right h, List.take_of_length_le (Nat.le_refl _), List.take_of_length_le h]
theorem sl_from {α : Type} (k : Nat) (l : List α) : sl (some (k : Int)) none l = l.drop k := by
  simp only [sl, loC, hiC]; rw [clip_nn (by omega)]; simp only [Int.toNat_natCast]
  rcases Nat.le_total k l.length with h | h
  · rw [Nat.min_eq_left h, List.take_of_length_le (by simp)]
  · rw [Nat.min_eq_right h, List.drop_of_length_le (Nat.le_refl _), List.drop_of_length_le h]; simp
theorem sl_mid {α : Type} (a b : Nat) (l : List α) : sl (some (a : Int)) (some (b : Int)) l = (l.drop a).take (b - a) := by
  simp only [sl, loC, hiC]; rw [clip_nn (by omega), clip_nn (by omega)]; simp only [Int.toNat_natCast]
  rcases Nat.le_total a l.length with h | h
  · rw [Nat.min_eq_left h]
    rcases Nat.le_total b l.length with h2 | h2
    · rw [Nat.min_eq_left h2]
    · rw [Nat.min_eq_right h2, List.take_of_length_le (by simp), List.take_of_length_le (by simp; omega)]
  · rw [Nat.min_eq_right h, List.drop_of_length_le (Nat.le_refl _), List.drop_of_length_le h]; simp
theorem sl_cut {α : Type} (k : Nat) (l : List α) (hk : 0 < k) : sl none (some (-(k : Int))) l = l.take (l.length - k) := by
  simp only [sl, loC, hiC, List.drop_zero, Nat.sub_zero]; rw [clip_neg (by omega)]; congr 1; omega

theorem bounds_one (lo hi : Option Int) (n : Nat) : sliceBounds lo hi none n = ((loC n lo : Int), (hiC n hi : Int), 1) := by
  unfold sliceBounds
  have h1 : ((1 : Int) > 0) = True := by simp
  simp only [Option.getD_none, h1, if_true]
  refine Prod.ext ?_ (Prod.ext ?_ rfl)
  · cases lo with
    | none => rfl
    | some i => show max 0 (min (if i < 0 then i + (n : Int) else i) n) = (((max 0 (min (if i < 0 then i + (n : Int) else i) n)).toNat : Nat) : Int); omega
  · cases hi with
    | none => rfl
    | some i => show max 0 (min (if i < 0 then i + (n : Int) else i) n) = (((max 0 (min (if i < 0 then i + (n : Int) else i) n)).toNat : Nat) : Int); omega
theorem pick_one (items : Array Value) (lo hi : Option Int) : (slicePick items lo hi none).toList = sl lo hi items.toList := by
  unfold slicePick
  rw [bounds_one]
  simp only [sliceRange_one, pick_run]
  simp [sl]
theorem pick_rev (items : Array Value) : (slicePick items none none (some (-1))).toList = items.toList.reverse := by rw [krv_pick]
theorem strIdx (lo hi : Option Int) (n : Nat) : Builtin.Str.strSliceIndices lo hi 1 n = (List.range (hiC n hi - loC n lo)).map (loC n lo + ·) := by
  have h := bounds_one lo hi n
  rw [← sliceRange_one]
  have e1 := congrArg (fun p => p.1) h
  have e2 := congrArg (fun p => p.2.1) h
  exact congr (congr (congrArg sliceRange e1) e2) rfl
theorem slicePicked_S (x : List Nat) (lo hi : Option (Int × Tok)) : ((slicePicked (S x) lo hi none).filterMap ((S x).cps[·]?)) = sl (lo.map (·.1)) (hi.map (·.1)) x := by
  unfold slicePicked
  simp only [Option.map_none, Option.getD_none, S_len]
  rw [strIdx, pick_run]
  simp [sl]

section
variable {prog : Program} {w : World} {A : Around} {D : List Addr} {g s : Shared} {L : Addr} {m : Str → Option Value} {news : List (Addr × Sh)} {env : Env} {pos px : Pos} {E : Value → Shared → Prop} {Q : Value → Shared → Prop}

theorem ldgS {K : Frag} {k P : Nat} {x y : Str} {t : Tok} (F : Fs D g L m news s) (W : Wo K g.heap) (S' : Small K P k) (hD : okD P k D) (e : nsIn K mainGlobals x = some (some (.str y t))) (h : Q (.str (S y.cps.toList) t) s)
    (hk : env.scope.kind = .function := by rfl) (hx : env.kindOf x = some .globalImplicit := by rfl) (hg : env.globals = mainGlobals := by rfl) (hd : (x == ("__debug__" : Str)) = false := by rfl) :
    wpAny (model prog w) A (eval (.Name x pos) env) Q E s := ldG F W S' hD e h hk hx hg hd
theorem cS (F : Fs D g L m news s) {x : Str} {a : List Nat} {k : Nat} (e : x = S a) (h : ∀ t s', Fs D g L m news s' → Q (.str (S a) t) s') : wpAny (model prog w) A (eval (.Constant (.str x) k pos) env) Q E s := by
  subst e; exact wpAny_Constant_str (h _ _ (F.tk _))
theorem cI (F : Fs D g L m news s) {i : Int} {k : Nat} (h : ∀ t s', Fs D g L m news s' → Q (.int i t) s') : wpAny (model prog w) A (eval (.Constant (.int i) k pos) env) Q E s := wpAny_Constant_int (h _ _ (F.tk _))
theorem addS (F : Fs D g L m news s) {a b : List Nat} {t u : Tok} (hsz : a.length + b.length ≤ 1000000) (h : ∀ t s', Fs D g L m news s' → Q (.str (S (a ++ b)) t) s') :
    wpAny (model prog w) A (binaryOp .Add (.str (S a) t) (.str (S b) u)) Q E s :=
  PyProof.Rows.add_str (fun t' tk => by rw [S_app]; exact h _ _ (F.tk _)) (by rw [S_len, S_len, sizeLine_eq]; omega)
theorem eqS {a b : List Nat} {t u : Tok} (h : Q (.bool (decide (a = b))) s) : wpAny (model prog w) A (compareOp .Eq (.str (S a) t) (.str (S b) u)) Q E s := PyProof.Rows.eq_str (by rw [S_eq]; exact h)
theorem neS {a b : List Nat} {t u : Tok} (h : Q (.bool (decide (a ≠ b))) s) : wpAny (model prog w) A (compareOp .NotEq (.str (S a) t) (.str (S b) u)) Q E s := PyProof.Rows.ne_str (by rw [S_ne]; exact h)
theorem inS {c : Nat} {b : List Nat} {t u : Tok} (h : Q (.bool (decide (c ∈ b))) s) : wpAny (model prog w) A (compareOp .In (.str (S [c]) t) (.str (S b) u)) Q E s :=
  PyProof.Rows.in_str (by have := StrLaws.found_one (S b) c; rw [show (⟨#[c]⟩ : Str) = S [c] from rfl] at this; rw [this]; exact h)
theorem lenS (F : Fs D g L m news s) {a : List Nat} {t : Tok} (hz : a.length ≤ 1000000) (h : ∀ t s', Fs D g L m news s' → Q (.int a.length t) s') : wpAny (model prog w) A (call (.builtin "len") [.str (S a) t]) Q E s :=
  PyProof.Rows.len_str (by rw [S_len]; omega) (by rw [S_len]; exact h _ _ (F.tk _))
theorem truS {Q : Bool → Shared → Prop} (F : Fs D g L m news s) {a : List Nat} {t : Tok} (hz : a.length ≤ 1000000) (h : ∀ s', Fs D g L m news s' → Q (!a.isEmpty) s') : wpAny (model prog w) A (truthy (.str (S a) t)) Q E s := by
  refine PySem.P.truthy_str (by rw [S_len]; omega) ?_
  have e : (((S a).length : Int) != 0) = (!a.isEmpty) := by rw [S_len]; cases a <;> simp <;> omega
  have h' := h _ (F.tk (s.toks + 1 + 1))
  rw [← e] at h'
  simpa using h'
theorem truL {Q : Bool → Shared → Prop} (F : Fs D g L m news s) {l : Addr} {items : Array Value} (hl : s.heap.IsList l items) (hz : items.size ≤ 1000000) (h : ∀ s', Fs D g L m news s' → Q (!items.isEmpty) s') : wpAny (model prog w) A (truthy (.ref l)) Q E s :=
  wpAny_truthy_list hl (by omega) (h _ (F.tk _))
theorem lenL (F : Fs D g L m news s) {l : Addr} {items : Array Value} (hl : s.heap.IsList l items) (hz : items.size ≤ 1000000) (h : ∀ t s', Fs D g L m news s' → Q (.int items.size t) s') : wpAny (model prog w) A (call (.builtin "len") [.ref l]) Q E s :=
  PyProof.Rows.len_list hl (by omega) (h _ _ (F.tk _))
theorem intAdd (F : Fs D g L m news s) {a b : Int} {t u : Tok} (h : ∀ t s', Fs D g L m news s' → Q (.int (a + b) t) s') : wpAny (model prog w) A (binaryOp .Add (.int a t) (.int b u)) Q E s := PyProof.Rows.add_int (h _ _ (F.tk _))
theorem intSub (F : Fs D g L m news s) {a b : Int} {t u : Tok} (h : ∀ t s', Fs D g L m news s' → Q (.int (a - b) t) s') : wpAny (model prog w) A (binaryOp .Sub (.int a t) (.int b u)) Q E s := PyProof.Rows.sub_int (h _ _ (F.tk _))
theorem intMod (F : Fs D g L m news s) {a b : Int} {t u : Tok} (hb : b ≠ 0) (h : ∀ t s', Fs D g L m news s' → Q (.int (a.fmod b) t) s') : wpAny (model prog w) A (binaryOp .Mod (.int a t) (.int b u)) Q E s := PyProof.Rows.mod_int' hb (h _ _ (F.tk _))
theorem intDiv (F : Fs D g L m news s) {a b : Int} {t u : Tok} (hb : b ≠ 0) (hb2 : b.natAbs < 1073741824) (h : ∀ t s', Fs D g L m news s' → Q (.int (a.fdiv b) t) s') : wpAny (model prog w) A (binaryOp .FloorDiv (.int a t) (.int b u)) Q E s := PyProof.Rows.floordiv_int hb (h _ _ (F.tk _)) (.inl (PyProof.noPylong_small hb2))
theorem intMul (F : Fs D g L m news s) {a b : Int} {t u : Tok} (hm : IntMulOk a b) (h : ∀ t s', Fs D g L m news s' → Q (.int (a * b) t) s') : wpAny (model prog w) A (binaryOp .Mult (.int a t) (.int b u)) Q E s := PyProof.Rows.mul_int (h _ _ (F.tk _)) hm
theorem intNeg (F : Fs D g L m news s) {a : Int} {t : Tok} (h : ∀ t s', Fs D g L m news s' → Q (.int (-a) t) s') : wpAny (model prog w) A (unaryOp .USub (.int a t)) Q E s := PyProof.Rows.neg_int (h _ _ (F.tk _))
theorem itemS (F : Fs D g L m news s) {value slice : Expr} {l : List Nat} {t u : Tok} {i : Int} {c : Nat} (h0 : 0 ≤ i) (hz : l.length ≤ 1000000) (hc : l[i.toNat]? = some c) (h : ∀ t s', Fs D g L m news s' → Q (.str (S [c]) t) s')
    (hs : subscripted slice false (.str (S l) t) (.int i u) = operate [.str (S l) t, .int i u] (getItem (.str (S l) t) (.int i u)) := by with_unfolding_all rfl)
    (ht : ∀ r, letTemporaryGo value (.str (S l) t) r = pure () := by intro _; with_unfolding_all rfl) : wpAny (model prog w) A (subscriptTail value slice (.str (S l) t) (.int i u)) Q E s := by
  have hlt : i.toNat < l.length := (List.getElem?_eq_some_iff.mp hc).1
  refine PyProof.Rows.item_str (by simp [fitsSsize]; omega) (by rw [S_len]; omega) (by rw [S_len]; omega) (fun _ => ?_) hs ht
  rw [item_at h0 (by rw [S_len]; omega) rfl]
  have e : (S l).cps.getD i.toNat 0 = c := by rw [show (S l).cps = l.toArray from rfl]; simp [hc]
  rw [e]
  exact h _ _ (F.tk _)
theorem itemL (F : Fs D g L m news s) {value slice : Expr} {a : Addr} {items : Array Value} {u : Tok} {i : Int} {x : Value} (hl : s.heap.IsList a items) (h0 : 0 ≤ i) (hz : items.size ≤ 1000000) (hx : items[i.toNat]? = some x) (h : Q x s)
    (hs : subscripted slice false (.ref a) (.int i u) = operate [.ref a, .int i u] (getItem (.ref a) (.int i u)) := by with_unfolding_all rfl) (hg : ∀ r, letTemporaryGo value (.ref a) r = pure () := by intro _; with_unfolding_all rfl) :
    wpAny (model prog w) A (subscriptTail value slice (.ref a) (.int i u)) Q E s := by
  have hlt : i.toNat < items.size := (Array.getElem?_eq_some_iff.mp hx).1
  exact PyProof.Rows.item_listL (l := items.toList) (by simpa using hl) h0 (by omega) (by simpa using hx) h hs hg
theorem Fs.slc (F : Fs D g L m news s) (o : Obj) : Fs D g L m news { s with heap := s.heap.push o } := F.step (Ext.heap fun _ _ _ e => Heap.get?_push_of_some _ e)
/-- a text's slice by ones -/
theorem subS (_F0 : Fs D g L m news s) {value : Expr} {lower upper : Option Expr} {p : Pos}
    (h : wpAny (model prog w) A (eval value env) (fun o s₁ => wpAny (model prog w) A (evalPart lower env) (fun vl s₂ => wpAny (model prog w) A (evalPart upper env) (fun vu s₃ =>
      ∃ (l : List Nat) (t : Tok) (lo hi : Option Int) (m : Str → Option Value) (news : List (Addr × Sh)), o = .str (S l) t ∧ IsPart vl lo ∧ IsPart vu hi ∧ Fs D g L m news s₃ ∧ l.length ≤ 1000000 ∧
        ∀ t' s', Fs D g L m news s' → Q (.str (S (sl lo hi l)) t') s') E s₂) E s₁) E s)
    (ht : ∀ o r, letTemporaryGo value o r = pure () := by intro _ _; rfl) :
    wpAny (model prog w) A (eval (.Subscript value (.Slice lower upper none p) pos) env) Q E s := by
  refine wpAny_Subscript_str_slice (wpAny_mono h (fun o s₁ h₁ => wpAny_mono h₁ (fun vl s₂ h₂ => wpAny_mono h₂ (fun vu s₃ h₃ => ?_) fun _ _ e => e) fun _ _ e => e) fun _ _ e => e) ht
  obtain ⟨l, t, lo, hi, m, news, rfl, pl, pu, F, hz, hQ⟩ := h₃
  have e1 : ∃ lo' : Option (Int × Tok), vl = partValue lo' ∧ lo'.map (·.1) = lo := by cases pl with | none => exact ⟨none, rfl, rfl⟩ | int i t => exact ⟨some (i, t), rfl, rfl⟩
  have e2 : ∃ hi' : Option (Int × Tok), vu = partValue hi' ∧ hi'.map (·.1) = hi := by cases pu with | none => exact ⟨none, rfl, rfl⟩ | int i t => exact ⟨some (i, t), rfl, rfl⟩
  obtain ⟨lo', rfl, rfl⟩ := e1
  obtain ⟨hi', rfl, rfl⟩ := e2
  refine ⟨S l, t, lo', hi', rfl, rfl, rfl, ?_⟩
  have key := slicePicked_S l lo' hi'
  unfold sliceMade
  rw [key]
  split
  · rename_i hw
    simp only [Option.map_none, Option.getD_none, beq_self_eq_true, Bool.true_and, beq_iff_eq] at hw
    have e : sl (lo'.map (·.1)) (hi'.map (·.1)) l = l := by
      have h2 : (slicePicked (S l) lo' hi' none).length = hiC l.length (hi'.map (·.1)) - loC l.length (lo'.map (·.1)) := by
        unfold slicePicked; simp only [Option.map_none, Option.getD_none, S_len]; rw [strIdx]; simp
      rw [h2, S_len] at hw
      have h3 := hiC_le l.length (hi'.map (·.1))
      unfold sl
      rw [hw]
      rcases l with _ | ⟨x, r⟩
      · simp
      · have h0 : loC (x :: r).length (lo'.map (·.1)) = 0 := by simp only [List.length_cons] at hw h3 ⊢; omega
        rw [h0, List.drop_zero, List.take_of_length_le (Nat.le_refl _)]
    have hq := hQ t _ (F.slc { cls := .type "slice", data := .fields #[partValue lo', partValue hi', .none] })
    rw [e] at hq
    exact hq
  · refine ⟨?_, hQ _ _ ((F.slc { cls := .type "slice", data := .fields #[partValue lo', partValue hi', .none] }).tk _)⟩
    show (S (sl (lo'.map (·.1)) (hi'.map (·.1)) l)).length ≤ sizeLine
    rw [S_len, sizeLine_eq]
    unfold sl
    rw [List.length_take, List.length_drop]; omega
end

/-- a list of texts -/
def SL (h : Heap) (a : Addr) (ss : List (List Nat)) : Prop := ∃ vs : List Value, h.PlainList a vs.toArray ∧ StrsAre vs (ss.map S)
theorem SL.keep {h h' : Heap} {a : Addr} {ss : List (List Nat)} (x : SL h a ss) (k : ∀ o, h.get? a = some o → h'.get? a = some o) : SL h' a ss := let ⟨vs, p, q⟩ := x; ⟨vs, p.at k, q⟩
/-- values that are texts -/
inductive SV : List Value → List (List Nat) → Prop
  | nil : SV [] []
  | cons {a : List Nat} {t : Tok} {vs : List Value} {ss : List (List Nat)} : SV vs ss → SV (.str (S a) t :: vs) (a :: ss)
theorem SV.strs : ∀ {vs : List Value} {ss : List (List Nat)}, SV vs ss → StrsAre vs (ss.map S)
  | _, _, .nil => .nil
  | _, _, .cons h => .cons _ _ h.strs
theorem SV.of : ∀ {vs : List Value} {ss : List Str}, StrsAre vs ss → SV vs (ss.map fun x => x.cps.toList)
  | _, _, .nil => .nil
  | _, _, .cons y t h => SV.cons (a := y.cps.toList) (t := t) (SV.of h)
theorem SV.len : ∀ {vs : List Value} {ss : List (List Nat)}, SV vs ss → vs.length = ss.length
  | _, _, .nil => rfl
  | _, _, .cons h => by simp [h.len]
theorem SV.app : ∀ {vs ws : List Value} {ss ts : List (List Nat)}, SV vs ss → SV ws ts → SV (vs ++ ws) (ss ++ ts)
  | _, _, _, _, .nil, h => h
  | _, _, _, _, .cons a, h => .cons (a.app h)
theorem SV.get : ∀ {vs : List Value} {ss : List (List Nat)}, SV vs ss → ∀ {i : Nat} {v : Value}, vs[i]? = some v → ∃ a t, ss[i]? = some a ∧ v = .str (S a) t
  | _, _, .nil, _, _, e => by simp at e
  | _, _, .cons h, 0, v, e => by simp at e; exact ⟨_, _, rfl, e.symm⟩
  | _, _, .cons h, i + 1, v, e => by rw [List.getElem?_cons_succ] at e ⊢; exact h.get e
theorem SV.at : ∀ {vs : List Value} {ss : List (List Nat)}, SV vs ss → ∀ {i : Nat} {a : List Nat}, ss[i]? = some a → ∃ t, vs[i]? = some (.str (S a) t)
  | _, _, .nil, _, _, e => by simp at e
  | _, _, .cons h, 0, v, e => by simp at e; subst e; exact ⟨_, rfl⟩
  | _, _, .cons h, i + 1, v, e => by simp at e ⊢; exact h.at e
theorem SV.drop : ∀ {vs : List Value} {ss : List (List Nat)}, SV vs ss → ∀ k : Nat, SV (vs.drop k) (ss.drop k)
  | _, _, h, 0 => h
  | _, _, .nil, _ + 1 => .nil
  | _, _, .cons h, k + 1 => h.drop k
theorem SV.take : ∀ {vs : List Value} {ss : List (List Nat)}, SV vs ss → ∀ k : Nat, SV (vs.take k) (ss.take k)
  | _, _, _, 0 => .nil
  | _, _, .nil, _ + 1 => .nil
  | _, _, .cons h, k + 1 => .cons (h.take k)
theorem SV.snoc {vs : List Value} {ss : List (List Nat)} (h : SV vs ss) (a : List Nat) (t : Tok) : SV (vs ++ [.str (S a) t]) (ss ++ [a]) := h.app (.cons .nil)
theorem SV.rev : ∀ {vs : List Value} {ss : List (List Nat)}, SV vs ss → SV vs.reverse ss.reverse
  | _, _, .nil => .nil
  | _, _, .cons h => by rw [List.reverse_cons, List.reverse_cons]; exact h.rev.snoc _ _

section
variable {prog : Program} {w : World} {A : Around} {D : List Addr} {g s : Shared} {L : Addr} {m : Str → Option Value} {news : List (Addr × Sh)} {env : Env} {pos px : Pos} {E : Value → Shared → Prop} {Q : Value → Shared → Prop}
theorem newL (F : Fs D g L m news s) {vs : List Value} (hz : vs.length ≤ 1000000) (h : ∀ a s', Fs D g L m ((a, .list vs.toArray) :: news) s' → s.heap.objs.size ≤ a → Q (.ref a) s') : wpAny (model prog w) A (newList vs) Q E s :=
  wpAny_newList (h _ _ (F.push _ (.list vs.toArray) s.toks ⟨0, Heap.get?_push_size _ rfl⟩) (Nat.le_refl _)) (by rw [sizeLine_eq]; simpa using by omega)
theorem newT (F : Fs D g L m news s) {vs : List Value} (hz : vs.length ≤ 1000000) (h : ∀ a s', Fs D g L m ((a, .raw (seqObj "tuple" vs.toArray 0)) :: news) s' → s.heap.objs.size ≤ a → Q (.ref a) s') : wpAny (model prog w) A (newTuple vs) Q E s :=
  wpAny_newTuple (h _ _ (F.push _ (.raw (seqObj "tuple" vs.toArray 0)) s.toks (Heap.get?_push_size _ rfl)) (Nat.le_refl _)) (by rw [sizeLine_eq]; simpa using by omega)
theorem appL (F : Fs D g L m news s) {a : Addr} {items : Array Value} {v : Value} (pre post : List (Addr × Sh)) (e : news = pre ++ (a, .list items) :: post) (hz : items.size ≤ 1000000)
    (h : ∀ s', Fs D g L m (pre ++ (a, .list (items.push v)) :: post) s' → Q .none s') : wpAny (model prog w) A (call (.builtin "list.append") [.ref a, v]) Q E s :=
  wpAny_list_append_plain (hsz := by rw [sizeLine_eq]; omega) (F.get (x := .list items) (by rw [e]; simp)) fun h' hl hs => h _ (F.upd e (x' := .list (items.push v)) hl hs _)
theorem gmApp {a : Addr} {items : Array Value} {pl : Sem Bool} {Q : Value × List Value → Shared → Prop} (hl : s.heap.PlainList a items) (h : Q (.builtin "list.append", [.ref a]) s) :
    wpAny (model prog w) A (getMethod (.ref a) "append" pl) Q E s := let ⟨_, e⟩ := hl; Calls.getMethod_list_append e rfl rfl h
theorem addL (F : Fs D g L m news s) {a b : Addr} {xs ys : Array Value} (ha : s.heap.PlainList a xs) (hb : s.heap.PlainList b ys) (hz : xs.size + ys.size ≤ 1000000)
    (h : ∀ c s', Fs D g L m ((c, .list (xs ++ ys)) :: news) s' → s.heap.objs.size ≤ c → Q (.ref c) s') : wpAny (model prog w) A (binaryOp .Add (.ref a) (.ref b)) Q E s := by
  obtain ⟨n, ea⟩ := ha
  obtain ⟨n', eb⟩ := hb
  exact PySem.P.add_list ea eb (h _ _ (F.push _ (.list (xs ++ ys)) s.toks ⟨0, Heap.get?_push_size _ rfl⟩) (Nat.le_refl _)) (by rw [sizeLine_eq]; omega)
/-- a list's slice by ones -/
theorem subL (_F0 : Fs D g L m news s) {value : Expr} {lower upper : Option Expr} {p : Pos}
    (h : wpAny (model prog w) A (eval value env) (fun o s₁ => wpAny (model prog w) A (evalPart lower env) (fun vl s₂ => wpAny (model prog w) A (evalPart upper env) (fun vu s₃ =>
      ∃ (l : Addr) (items : Array Value) (lo hi : Option Int) (m : Str → Option Value) (news : List (Addr × Sh)), o = .ref l ∧ s₃.heap.IsList l items ∧ IsPart vl lo ∧ IsPart vu hi ∧ Fs D g L m news s₃ ∧ items.size ≤ 1000000 ∧
        ∀ a s', Fs D g L m ((a, .list (sl lo hi items.toList).toArray) :: news) s' → s₃.heap.objs.size ≤ a → Q (.ref a) s') E s₂) E s₁) E s)
    (ht : ∀ o r, letTemporaryGo value o r = pure () := by intro _ _; rfl) :
    wpAny (model prog w) A (eval (.Subscript value (.Slice lower upper none p) pos) env) Q E s := by
  refine wpAny_Subscript_list_slice (wpAny_mono h (fun o s₁ h₁ => wpAny_mono h₁ (fun vl s₂ h₂ => wpAny_mono h₂ (fun vu s₃ h₃ => ?_) fun _ _ e => e) fun _ _ e => e) fun _ _ e => e) ht
  obtain ⟨l, items, lo, hi, m, news, rfl, hl, pl, pu, F, hz, hQ⟩ := h₃
  refine ⟨l, items, lo, hi, rfl, hl, by rw [sizeLine_eq]; omega, pl, pu, ?_⟩
  have e : slicePick items lo hi none = (sl lo hi items.toList).toArray := by rw [← pick_one]
  have F1 := F.slc { cls := .type "slice", data := .fields #[vl, vu, .none] }
  have hq := hQ _ _ (F1.push { cls := .type "list", data := .seq (slicePick items lo hi none) } (.list (sl lo hi items.toList).toArray) s₃.toks ⟨0, by rw [Heap.get?_push_size _ rfl, e]⟩) (by show _ ≤ (s₃.heap.push _).objs.size; rw [Heap.size_push]; exact Nat.le_succ _)
  rw [show ({ s₃ with heap := s₃.heap.push { cls := .type "slice", data := .fields #[vl, vu, .none] } } : Shared).heap.objs.size = s₃.heap.objs.size + 1 from Heap.size_push ..] at hq
  exact hq
/-- backwards -/
theorem revTail (F : Fs D g L m news s) {value slice : Expr} {l sa : Addr} {items : Array Value} {k : Tok} (hl : s.heap.IsList l items) (hs : s.heap.get? sa = some { cls := .type "slice", data := .fields #[.none, .none, .int (-1) k] }) (hz : items.size ≤ 1000000)
    (h : ∀ a s', Fs D g L m ((a, .list items.toList.reverse.toArray) :: news) s' → s.heap.objs.size ≤ a → Q (.ref a) s')
    (hs' : ∃ ops, subscripted slice false (.ref l) (.ref sa) = operate ops (getItem (.ref l) (.ref sa)) := by exact ⟨_, by with_unfolding_all rfl⟩) (ht : ∀ r, letTemporaryGo value (.ref l) r = pure () := by intro _; with_unfolding_all rfl) :
    wpAny (model prog w) A (subscriptTail value slice (.ref l) (.ref sa)) Q E s := by
  obtain ⟨ops, hs'⟩ := hs'
  refine tail_of_ItemOn ⟨"list", _, slot_list_getitem.lookup, hl.typeIs, wpAny_getItem_list_slice hl ⟨_, hs, rfl, rfl⟩ .none .none (.int (-1) k) (by decide) ?_ (by rw [sizeLine_eq]; omega)⟩ hs' ht
  rw [krv_pick]
  exact h _ _ (F.push _ (.list items.toList.reverse.toArray) s.toks ⟨0, Heap.get?_push_size _ rfl⟩) (Nat.le_refl _)
theorem revTailS (F : Fs D g L m news s) {value slice : Expr} {l : List Nat} {t : Tok} {sa : Addr} {k : Tok} (hs : s.heap.get? sa = some { cls := .type "slice", data := .fields #[.none, .none, .int (-1) k] }) (hz : l.length ≤ 1000000)
    (h : ∀ t s', Fs D g L m news s' → Q (.str (S l.reverse) t) s')
    (hs' : ∃ ops, subscripted slice false (.str (S l) t) (.ref sa) = operate ops (getItem (.str (S l) t) (.ref sa)) := by exact ⟨_, by with_unfolding_all rfl⟩) (ht : ∀ r, letTemporaryGo value (.str (S l) t) r = pure () := by intro _; with_unfolding_all rfl) :
    wpAny (model prog w) A (subscriptTail value slice (.str (S l) t) (.ref sa)) Q E s := by
  obtain ⟨ops, hs'⟩ := hs'
  refine tail_of_ItemOn ⟨"str", _, PySem.F.slot_str_getitem.lookup, typeIs_str _ _ _, wpAny_getItem_str_slice (l := none) (u := none) (st := some (-1, k)) ⟨_, hs, rfl, rfl⟩ (by rfl) ?_⟩ hs' ht
  have key : ((slicePicked (S l) none none (some (-1, k))).filterMap ((S l).cps[·]?)) = l.reverse := by
    unfold slicePicked
    simp only [Option.map_none, Option.map_some, Option.getD_some, S_len]
    rw [picked_rev, krv_range, List.filterMap_reverse]
    have := krv_all (S l).cps
    rw [show (S l).cps.size = l.length from S_len l] at this
    rw [this]; rfl
  unfold sliceMade
  rw [key, if_neg (by simp)]
  refine ⟨?_, h _ _ (F.tk _)⟩
  show (S l.reverse).length ≤ sizeLine
  rw [S_len, sizeLine_eq, List.length_reverse]; omega
theorem sliceV (_F0 : Fs D g L m news s) {lower upper step : Option Expr} {p : Pos} {Q : Value → Shared → Prop}
    (h : wpAny (model prog w) A (evalPart lower env) (fun l s₁ => wpAny (model prog w) A (evalPart upper env) (fun u s₂ => wpAny (model prog w) A (evalPart step env) (fun st s₃ =>
      ∃ (m : Str → Option Value) (news : List (Addr × Sh)), Fs D g L m news s₃ ∧ ∀ a s', Fs D g L m ((a, .raw { cls := .type "slice", data := .fields #[l, u, st] }) :: news) s' → Q (.ref a) s') E s₂) E s₁) E s) :
    wpAny (model prog w) A (eval (.Slice lower upper step p) env) Q E s :=
  wpAny_Slice (wpAny_mono h (fun l s₁ h₁ => wpAny_mono h₁ (fun u s₂ h₂ => wpAny_mono h₂ (fun st s₃ h₃ => by
    obtain ⟨m, news, F, hq⟩ := h₃
    exact hq _ _ (F.push _ (.raw _) s₃.toks (Heap.get?_push_size _ rfl))) fun _ _ e => e) fun _ _ e => e) fun _ _ e => e)

/-- texts joined -/
def joined (sep : List Nat) : List (List Nat) → List Nat
  | [] => []
  | [a] => a
  | a :: r => a ++ sep ++ joined sep r
theorem join_S (sep : List Nat) : ∀ ss : List (List Nat), Str.join (S sep) (ss.map S) = S (joined sep ss)
  | [] => rfl
  | [a] => rfl
  | a :: b :: r => by
    have ih := join_S sep (b :: r)
    rw [List.map_cons] at ih
    show S a ++ S sep ++ Str.join (S sep) (S b :: r.map S) = _
    rw [ih, S_app, S_app]; rfl
theorem joinL (F : Fs D g L m news s) {sep : List Nat} {t : Tok} {a : Addr} {items : Array Value} {ss : List (List Nat)} (hl : s.heap.PlainList a items) (hv : SV items.toList ss) (hz : (ss.map (·.length)).sum + ss.length * sep.length ≤ 1000000)
    (h : ∀ t s', Fs D g L m news s' → Q (.str (S (joined sep ss)) t) s') : wpAny (model prog w) A (call (.builtin "str.join") [.str (S sep) t, .ref a]) Q E s := by
  refine PyProof.Rows.join_list hl.isList hv.strs ?_ fun t' k => ?_
  · rw [List.map_map, List.length_map, S_len, show ((fun x : Str => x.length) ∘ S) = (fun x => x.length) from funext S_len]; omega
  · rw [show PySem.Txt.join (S sep) (ss.map S) = Str.join (S sep) (ss.map S) from StrLaws.glued_eq_join _ _, join_S]
    exact h _ _ (F.tk _)
theorem starts (F : Fs D g L m news s) {a b : List Nat} {t u : Tok} (h : Q (.bool (b.isPrefixOf a)) s) : wpAny (model prog w) A (call (.builtin "str.startswith") [.str (S a) t, .str (S b) u]) Q E s := by
  refine PySem.SC.startswith ?_
  have e : PySem.Txt.startswith (S a) (S b) = b.isPrefixOf a := by
    unfold PySem.Txt.startswith
    rw [StrLaws.subAt_eq]
    simp only [S_len, S_cps, List.drop_zero, Nat.zero_add]
    rw [Bool.eq_iff_iff]
    simp only [Bool.and_eq_true, decide_eq_true_eq, beq_iff_eq, List.isPrefixOf_iff_prefix]
    constructor
    · rintro ⟨_, h⟩; rw [← h]; exact List.take_prefix _ _
    · intro h; exact ⟨h.length_le, by rw [List.prefix_iff_eq_take] at h; exact h.symm⟩
  rw [e]; exact h

theorem iterS {x : Str} {t : Tok}
    (hQ : ∀ (o : Obj) (St : Nat → Heap → Prop), (∀ A' : Around, A'.handled = none → Walks prog w A' s.heap.objs.size [s.heap.objs.size] [s.heap.objs.size] x.cps.size (SignAt x) St) → (∀ i h, St i h → ∃ o, h.get? s.heap.objs.size = some o) → St 0 (s.heap.push o) →
      (s.heap.push o).get? s.heap.objs.size = some o → Q (.ref s.heap.objs.size) { s with heap := s.heap.push o }) : wpAny (model prog w) A (pyIter (.str x t)) Q E s := by
  cases ha : x.cps.all (· < 128)
  · exact wpAny_pyIter_wide ha (hQ _ _ (fun A' hA => Walks.strWide hA _ x t) (fun i h hs => let ⟨o, e, _⟩ := hs; ⟨o, e⟩) ⟨_, Heap.get?_push_size _ rfl, rfl, rfl⟩ (Heap.get?_push_size _ rfl))
  · exact wpAny_pyIter_ascii ha (hQ _ _ (fun A' hA => Walks.strAscii hA _ x t) (fun i h hs => let ⟨o, e, _⟩ := hs; ⟨o, e⟩) ⟨_, Heap.get?_push_size _ rfl, rfl, rfl⟩ (Heap.get?_push_size _ rfl))

/-- a comprehension over a text, its elements texts -/
theorem compS (F : Fs D g L m news s) (hh : A.handled = none) {x : List Nat} {t : Tok} {nm : Str} {scope : Scope} {cl : List (Str × Addr)} {elt : Expr} {fin : (Str → Option Value) → Addr → List (Addr × Sh) → Shared → Prop} (f : Nat → List Nat) (hx : x.length ≤ 100000)
    (step : ∀ c t pre C s' E', c ∈ x → Fs D g C (fun y => if y = nm then some (.str (S [c]) t) else none) (pre ++ news) s' →
      wpAny (model prog w) A (eval elt (compEnvC scope cl C env)) (fun y s'' => (∃ t, y = .str (S (f c)) t) ∧ Fs D g C (fun y => if y = nm then some (.str (S [c]) t) else none) (pre ++ news) s'') E' s')
    (hfin : ∀ acc ys s', SV ys (x.map f) → Fs D g L m ((acc, .list ys.toArray) :: news) s' → fin m acc ((acc, .list ys.toArray) :: news) s') :
    wpAny (model prog w) A (pyIter (.str (S x) t)) (CompGo prog w A D g L env nm scope cl elt fin) E s := by
  refine iterS fun o St W hI h0 ho => ?_
  have F1 := F.push o (.raw o) s.toks ho
  have hz : (S x).cps.size = x.length := S_len x
  refine ⟨s.heap.objs.size, _, _, _, _, St, o, m, news, fun i ys nw => nw = news ∧ SV ys.toList ((x.take i).map f), [], rfl, W A hh, by simp, by simp, hI, F1, h0, ⟨rfl, by simpa using SV.nil⟩, by rw [hz]; exact hx, by simp, ?_, ?_⟩
  · rintro i v ys C acc oL news' o s' E' hi ⟨c, u, hc, rfl⟩ ⟨rfl, hv⟩ hys F'
    have hcx : x[i]? = some c := by rw [← hc]; show _ = x.toArray[i]?; simp
    refine wpAny_mono (step c u [(s.heap.objs.size, .raw o), (acc, .list ys), (L, .raw oL)] C s' E' (List.mem_of_getElem? hcx) F') (fun y s'' h => ?_) fun _ _ e => e
    obtain ⟨⟨t', rfl⟩, F''⟩ := h
    refine ⟨news', F'', rfl, ?_⟩
    rw [Array.toList_push, List.take_add_one, hcx, List.map_append]
    exact hv.snoc _ _
  · rintro acc ys news' s' ⟨rfl, hv⟩ F'
    rw [hz, List.take_of_length_le (Nat.le_refl _)] at hv
    exact hfin acc ys.toList s' hv F'
end

section
variable {prog : Program} {w : World} {A : Around} {D : List Addr} {g s : Shared} {L : Addr} {m : Str → Option Value} {news : List (Addr × Sh)} {env : Env} {pos px : Pos} {R : Result → Shared → Prop} {E : Value → Shared → Prop} {Q : Value → Shared → Prop}

/-- two entries of the ledger move on -/
theorem Fs.two {a b : Addr} {x y x' y' : Sh} (F : Fs D g L m ((a, x) :: (b, y) :: news) s) {h' : Heap} {tk : Nat} (hx : x'.at h' a) (hy : y'.at h' b) (hk : ∀ c o, c ≠ a → c ≠ b → s.heap.get? c = some o → h'.get? c = some o) :
    Fs D g L m ((a, x') :: (b, y') :: news) { s with heap := h', toks := tk } := by
  have haL : a ≠ L := F.ne (p := (a, x)) (.head _)
  have hbL : b ≠ L := F.ne (p := (b, y)) (.tail _ (.head _))
  have oa := F.own (a, x) (.head _)
  have ob := F.own (b, y) (.tail _ (.head _))
  have hnd : (a :: b :: news.map (·.1)).Nodup := by have := (List.nodup_cons.mp F.nd).2; simpa using this
  have na : ∀ p ∈ news, p.1 ≠ a := fun p hp => Ne.symm (nodup_ne hnd (.tail _ (List.mem_map_of_mem hp)))
  have nb : ∀ p ∈ news, p.1 ≠ b := fun p hp => Ne.symm (nodup_ne (List.nodup_cons.mp hnd).2 (List.mem_map_of_mem hp))
  have hW : ∀ c ∈ [a, b], Own D g c := fun c hc => by
    rcases List.mem_cons.mp hc with rfl | hc
    · exact oa
    · exact List.mem_singleton.mp hc ▸ ob
  refine ⟨F.ext.but (W := [a, b]) (fun q o hq e => hk q o (fun h => hq (by simp [h])) (fun h => hq (by simp [h])) e) hW, (let ⟨m₀, n, k⟩ := F.loc; ⟨m₀, n.at' fun o e => hk _ o (Ne.symm haL) (Ne.symm hbL) e, k⟩), F.newL, fun p hp => ?_, fun p hp => ?_, by simpa using F.nd⟩
  · rcases List.mem_cons.mp hp with rfl | hp
    · exact hx
    rcases List.mem_cons.mp hp with rfl | hp
    · exact hy
    exact Sh.at_keep (F.led p (.tail _ (.tail _ hp))) fun o e => hk _ o (na p hp) (nb p hp) e
  · rcases List.mem_cons.mp hp with rfl | hp
    · exact oa
    rcases List.mem_cons.mp hp with rfl | hp
    · exact ob
    exact F.own p (.tail _ (.tail _ hp))
theorem Fs.lose2 {a b : Addr} {x y : Sh} (F : Fs D g L m ((a, x) :: (b, y) :: news) s) {h' : Heap} {tk : Nat} (hk : ∀ c o, c ≠ a → c ≠ b → s.heap.get? c = some o → h'.get? c = some o) :
    Fs D g L m news { s with heap := h', toks := tk } := by
  have haL : a ≠ L := F.ne (p := (a, x)) (.head _)
  have hbL : b ≠ L := F.ne (p := (b, y)) (.tail _ (.head _))
  have oa := F.own (a, x) (.head _)
  have ob := F.own (b, y) (.tail _ (.head _))
  have hnd : (a :: b :: news.map (·.1)).Nodup := by have := (List.nodup_cons.mp F.nd).2; simpa using this
  have na : ∀ p ∈ news, p.1 ≠ a := fun p hp => Ne.symm (nodup_ne hnd (.tail _ (List.mem_map_of_mem hp)))
  have nb : ∀ p ∈ news, p.1 ≠ b := fun p hp => Ne.symm (nodup_ne (List.nodup_cons.mp hnd).2 (List.mem_map_of_mem hp))
  have hW : ∀ c ∈ [a, b], Own D g c := fun c hc => by
    rcases List.mem_cons.mp hc with rfl | hc
    · exact oa
    · exact List.mem_singleton.mp hc ▸ ob
  exact ⟨F.ext.but (W := [a, b]) (fun q o hq e => hk q o (fun h => hq (by simp [h])) (fun h => hq (by simp [h])) e) hW, (let ⟨m₀, n, k⟩ := F.loc; ⟨m₀, n.at' fun o e => hk _ o (Ne.symm haL) (Ne.symm hbL) e, k⟩), F.newL,
    fun p hp => Sh.at_keep (F.led p (.tail _ (.tail _ hp))) fun o e => hk _ o (na p hp) (nb p hp) e, fun p hp => F.own p (.tail _ (.tail _ hp)), F.nd.sublist (((List.sublist_cons_self _ _).trans (List.sublist_cons_self _ _)).cons_cons L)⟩

/-- for i, c in enumerate(text) -/
theorem forE {x : List Nat} {xi xc : Str} {pi pc pt : Pos} {k1 : Nat} {body : List Stmt} {e it : Addr} {t : Tok} {oe oi : Obj} (J : Nat → (Str → Option Value) → List (Addr × Sh) → Prop) (hh : A.handled = none)
    (F : Fs D g L m ((e, .raw oe) :: (it, .raw oi) :: news) s) (he : IsEnum s.heap e it 0 .none) (hit : s.heap.IsStrIter it (strIterType (S x)) (S x) t 0) (h0 : J 0 m news)
    (hL : env.locals = L) (hk : env.scope.kind = .function) (hxi : env.kindOf xi = some .local) (hxc : env.kindOf xc = some .local)
    (step : ∀ i c ti tc m news s oe oi E', x[i]? = some c → J i m news → Fs D g L (fun y => if y = xc then some (.str (S [c]) tc) else if y = xi then some (.int (i : Nat) ti) else m y) ((e, .raw oe) :: (it, .raw oi) :: news) s →
      wpAny (model prog w) A (execs body env) (Turn R fun s' => ∃ m' news', Fs D g L m' ((e, .raw oe) :: (it, .raw oi) :: news') s' ∧ J (i + 1) m' news') E' s)
    (fin : ∀ m news s, J x.length m news → Fs D g L m news s → R (.ok .next) s) :
    codeAny (model prog w) A (.forLoop (.Tuple [.Name xi pi, .Name xc pc] k1 pt) (.ref e) body [] env) R s := by
  have hei : e ≠ it := by have := (List.nodup_cons.mp F.nd).2; exact nodup_ne (l := it :: news.map (·.1)) (by simpa using this) (.head _)
  have hDr : ∃ St : Nat → Heap → Prop, Draws prog w A.in1 it [it] (S x).cps.size (SignAt (S x)) St ∧ St 0 s.heap ∧ (∀ i h, St i h → ∃ o, h.get? it = some o) := by
    unfold strIterType at hit
    split at hit
    · exact ⟨fun i h => h.IsStrIter it "str_ascii_iterator" (S x) t i, Draws.strAscii (A := A.in1) hh it (S x) t, hit, fun i h hs => let ⟨o, e, _⟩ := hs; ⟨o, e⟩⟩
    · exact ⟨fun i h => h.IsStrIter it "str_iterator" (S x) t i, Draws.strWide (A := A.in1) hh it (S x) t, hit, fun i h hs => let ⟨o, e, _⟩ := hs; ⟨o, e⟩⟩
  obtain ⟨St, Dr, hst, hI⟩ := hDr
  have W := WalksT.enumerateD Dr e hei (by simp [hei]) (by simp)
  have hz : (S x).cps.size = x.length := S_len x
  refine codeAny_forLoop_any (fun k s' => ∃ i m' news' oe oi, Fs D g L m' ((e, .raw oe) :: (it, .raw oi) :: news') s' ∧ ((∃ old, IsEnum s'.heap e it (i : Nat) old) ∧ St i s'.heap) ∧ J i m' news' ∧ i ≤ x.length ∧ k = x.length + 1 - i) ?_ (x.length + 1)
    ⟨0, m, news, oe, oi, F, ⟨⟨_, he⟩, hst⟩, h0, Nat.zero_le _, rfl⟩
  rintro k s' ⟨i, m', news', oe', oi', F', hst', hJ, hi, rfl⟩
  by_cases hlt : i < x.length
  · refine W.item i _ _ _ (by rw [hz]; exact hlt) hst' fun T vals h₁ tk₁ hv hT htup hmid hk₁ => ?_
    obtain ⟨ti, v, ⟨c, tc, hc, rfl⟩, rfl⟩ := hv
    have hc' : x[i]? = some c := by rw [← hc]; show _ = x.toArray[i]?; simp
    refine W.go _ _ _ i T _ _ _ hmid fun h₂ hst₂ hk₂ => ?_
    have hTne : T ∉ [e, it] := W.apart _ _ _ hmid
    have htup₂ : h₂.IsTuple T #[.int (i : Nat) ti, .str ⟨#[c]⟩ tc] := let ⟨o, ho, r⟩ := htup; ⟨o, hk₂ T o hTne ho, r⟩
    refine wpAny_assign_Tuple hh htup₂ rfl rfl fun h₃ hx₃ => ?_
    replace hx₃ : Heap.ExtBut h₂.objs.size h₂ h₃ := hx₃
    have hst₃ : (∃ old, IsEnum h₃ e it ((i + 1 : Nat) : Int) old) ∧ St (i + 1) h₃ := W.frame _ _ _ hst₂ fun b _ o e => hx₃ b o (Nat.ne_of_lt (Heap.lt_size e)) e
    obtain ⟨⟨old₃, he₃⟩, hs₃⟩ := hst₃
    obtain ⟨oi₃, hoi₃⟩ := hI _ _ hs₃
    have F₃ := F'.two (h' := h₃) (tk := tk₁) (x' := .raw _) (y' := .raw oi₃) he₃ hoi₃ fun b o hbe hbi e => by
      have e2 := hk₂ b o (by simp [hbe, hbi]) (hk₁ b o (by simp [hbe, hbi]) e)
      exact hx₃ b o (Nat.ne_of_lt (Heap.lt_size e2)) e2
    show wpAny _ A (do holding [.str ⟨#[c]⟩ tc] (assign (.Name xi pi) env (.int (i : Nat) ti)); do holding [] (assign (.Name xc pc) env (.str ⟨#[c]⟩ tc)); pure ()) _ _ _
    refine wpAny_bind (wpAny_holding (wpAny_assign_Name (st F₃ (fun s₄ F₄ => ?_) hL hk hxi)))
    refine wpAny_bind (wpAny_holding (wpAny_assign_Name (st F₄ (fun s₅ F₅ => wpAny_pure ?_) hL hk hxc)))
    refine wpAny_mono (step i c ti tc m' news' s₅ _ oi₃ _ hc' hJ F₅) (fun f s₆ h₆ => ?_) fun _ _ e => e
    have key : ∀ m₆ news₆, Fs D g L m₆ ((e, .raw _) :: (it, .raw oi₃) :: news₆) s₆ → J (i + 1) m₆ news₆ → ∃ m, m < x.length + 1 - i ∧ ∃ i m' news' oe oi, Fs D g L m' ((e, .raw oe) :: (it, .raw oi) :: news') s₆ ∧ ((∃ old, IsEnum s₆.heap e it (i : Nat) old) ∧ St i s₆.heap) ∧ J i m' news' ∧ i ≤ x.length ∧ m = x.length + 1 - i := fun m₆ news₆ F₆ hJ₆ =>
      ⟨x.length + 1 - (i + 1), by omega, i + 1, m₆, news₆, _, oi₃, F₆, ⟨⟨old₃, F₆.get (.head _)⟩, Dr.frame _ _ _ hs₃ fun b hb o e => by
        rw [List.mem_singleton.mp hb] at e ⊢; rw [hoi₃] at e; cases e; exact F₆.get (.tail _ (.head _))⟩, hJ₆, hlt, rfl⟩
    cases f with
    | next => obtain ⟨m₆, news₆, F₆, hJ₆⟩ := h₆; exact key _ _ F₆ hJ₆
    | cont => obtain ⟨m₆, news₆, F₆, hJ₆⟩ := h₆; exact key _ _ F₆ hJ₆
    | brk => exact h₆
    | ret v => exact h₆
  · have hin : i = x.length := by omega
    subst hin
    refine W.done _ _ _ (by rw [hz]; exact hst') fun h₁ tk₁ hk₁ => wpAny_execs_nil ?_
    exact fin _ _ _ hJ (F'.lose2 fun b o hbe hbi e => hk₁ b o (by simp [hbe, hbi]) e)

/-- enumerate(text), made and asked for its iterator -/
theorem enumS (F : Fs D g L m news s) {x : List Nat} {t : Tok}
    (h : ∀ e it oe oi s', Fs D g L m ((e, .raw oe) :: (it, .raw oi) :: news) s' → IsEnum s'.heap e it 0 .none → s'.heap.IsStrIter it (strIterType (S x)) (S x) t 0 → Q (.ref e) s') :
    wpAny (model prog w) A (call (.type "enumerate") [.str (S x) t]) Q E s := by
  refine call_enumerate_str fun h' he hit hz hk => ?_
  obtain ⟨oi, hoi, r1, r2⟩ := hit
  have F1 : Fs D g L m news { s with heap := h' } := F.step (Ext.heap fun b o _ e => hk b o e)
  refine h (s.heap.objs.size + 1) s.heap.objs.size { cls := .type "enumerate", dict := none, data := .fields #[.none, .bool false, .ref s.heap.objs.size, rawInt 0, .none, .none], slots := #[] } oi { s with heap := h' } ⟨F1.ext, F1.loc, F1.newL, fun p hp => ?_, fun p hp => ?_, ?_⟩ he ⟨oi, hoi, r1, r2⟩
  · rcases List.mem_cons.mp hp with rfl | hp
    · exact he
    rcases List.mem_cons.mp hp with rfl | hp
    · exact hoi
    exact F1.led p hp
  · have hg : g.heap.objs.size ≤ s.heap.objs.size := Nat.le_of_lt (Nat.lt_of_le_of_lt F.newL F.ltL)
    rcases List.mem_cons.mp hp with rfl | hp
    · exact .inr (Nat.le_succ_of_le hg)
    rcases List.mem_cons.mp hp with rfl | hp
    · exact .inr hg
    exact F.own p hp
  · have h3 : ∀ a ∈ L :: news.map (·.1), a < s.heap.objs.size := fun a ha => by
      rcases List.mem_cons.mp ha with rfl | ha
      · exact F.ltL
      · obtain ⟨p, hp, rfl⟩ := List.mem_map.mp ha; exact F.lt hp
    have h1 := F.nd
    show (L :: (s.heap.objs.size + 1) :: s.heap.objs.size :: news.map (·.1)).Nodup
    rw [List.nodup_cons] at h1 ⊢
    refine ⟨fun q => ?_, ?_⟩
    · have hl := F.ltL
      rcases List.mem_cons.mp q with q | q
      · rw [q] at hl; exact absurd hl (Nat.not_lt.mpr (Nat.le_succ _))
      rcases List.mem_cons.mp q with q | q
      · rw [q] at hl; exact absurd hl (Nat.lt_irrefl _)
      exact h1.1 q
    · rw [List.nodup_cons, List.nodup_cons]
      refine ⟨fun q => ?_, fun q => Nat.lt_irrefl _ (h3 _ (.tail _ q)), h1.2⟩
      rcases List.mem_cons.mp q with q | q
      · exact absurd q (Nat.succ_ne_self _)
      · exact absurd (h3 _ (.tail _ q)) (Nat.not_lt.mpr (Nat.le_succ _))

/-- lexicographic order of signs, least and greatest -/
def minS : List (List Nat) → List Nat
  | [] => []
  | a :: r => r.foldl (fun b x => if x < b then x else b) a
def maxS : List (List Nat) → List Nat
  | [] => []
  | a :: r => r.foldl (fun b x => if b < x then x else b) a
end

theorem ltT {a b c : List Nat} (h : a < b) (h' : b < c) : a < c := List.lt_trans h h'
theorem ltI (a : List Nat) : ¬ a < a := List.lt_irrefl a
theorem ltA {a b : List Nat} (h : ¬ a < b) (h' : ¬ b < a) : a = b := List.le_antisymm (List.not_lt.mp h') (List.not_lt.mp h)
theorem argBest_min (k : Nat → List Nat) : ∀ n, argBest (fun i j => decide (k i < k j)) n ≤ n ∧ ∀ j ≤ n, ¬ k j < k (argBest (fun i j => decide (k i < k j)) n)
  | 0 => ⟨Nat.le_refl _, fun j hj => by rw [Nat.le_zero.mp hj]; exact ltI _⟩
  | n + 1 => by
    obtain ⟨h1, h2⟩ := argBest_min k n
    unfold argBest
    by_cases h : k (n + 1) < k (argBest (fun i j => decide (k i < k j)) n)
    · rw [if_pos (decide_eq_true h)]
      refine ⟨Nat.le_refl _, fun j hj q => ?_⟩
      rcases Nat.lt_or_ge n j with hj' | hj'
      · rw [show j = n + 1 by omega] at q; exact ltI _ q
      · exact h2 j hj' (ltT q h)
    · rw [if_neg (by simpa using h)]
      refine ⟨Nat.le_succ_of_le h1, fun j hj => ?_⟩
      rcases Nat.lt_or_ge n j with hj' | hj'
      · rw [show j = n + 1 by omega]; exact h
      · exact h2 j hj'
theorem argBest_max (k : Nat → List Nat) : ∀ n, argBest (fun i j => decide (k j < k i)) n ≤ n ∧ ∀ j ≤ n, ¬ k (argBest (fun i j => decide (k j < k i)) n) < k j
  | 0 => ⟨Nat.le_refl _, fun j hj => by rw [Nat.le_zero.mp hj]; exact ltI _⟩
  | n + 1 => by
    obtain ⟨h1, h2⟩ := argBest_max k n
    unfold argBest
    by_cases h : k (argBest (fun i j => decide (k j < k i)) n) < k (n + 1)
    · rw [if_pos (decide_eq_true h)]
      refine ⟨Nat.le_refl _, fun j hj q => ?_⟩
      rcases Nat.lt_or_ge n j with hj' | hj'
      · rw [show j = n + 1 by omega] at q; exact ltI _ q
      · exact h2 j hj' (ltT h q)
    · rw [if_neg (by simpa using h)]
      refine ⟨Nat.le_succ_of_le h1, fun j hj => ?_⟩
      rcases Nat.lt_or_ge n j with hj' | hj'
      · rw [show j = n + 1 by omega]; exact h
      · exact h2 j hj'
section
variable {prog : Program} {w : World} {A : Around} {D : List Addr} {g s : Shared} {L : Addr} {m : Str → Option Value} {news : List (Addr × Sh)} {env : Env} {pos px : Pos} {R : Result → Shared → Prop} {E : Value → Shared → Prop} {Q : Value → Shared → Prop}
theorem isListIter_new (h : Heap) (l : Addr) : (h.push { cls := .type "list_iterator", data := .fields #[.ref l, .int 0 0] }).IsListIter h.objs.size l 0 := ⟨_, Heap.get?_push_size _ rfl, rfl, rfl⟩
theorem minL (F : Fs D g L m news s) (hh : A.handled = none) {a : Addr} {items : Array Value} {ss : List (List Nat)} (hl : s.heap.PlainList a items) (hv : SV items.toList ss) (hne : ss ≠ [])
    (h : ∀ x t s', x ∈ ss → (∀ y ∈ ss, ¬ y < x) → Fs D g L m news s' → Q (.str (S x) t) s') : wpAny (model prog w) A (call (.builtin "min") [.ref a]) Q E s := by
  have hz : items.size = ss.length := by rw [← Array.length_toList]; exact hv.len
  have hpos : 0 < ss.length := List.length_pos_iff.mpr hne
  have hget : ∀ i v, items[i]? = some v → ∃ t, v = .str (S (ss.getD i [])) t ∧ i < ss.length := fun i v e => by
    obtain ⟨x, t, hx, rfl⟩ := hv.get (i := i) (v := v) (by simpa using e)
    exact ⟨t, by rw [List.getD_eq_getElem?_getD, hx]; rfl, (List.getElem?_eq_some_iff.mp hx).1⟩
  refine call_min_walk (wpAny_pyIter_list hl.isList ?_)
  obtain ⟨ol, hol⟩ := id hl
  have hlt : a < s.heap.objs.size := Heap.lt_size hol
  refine ⟨s.heap.objs.size, _, _, _, _, _, fun i j => decide (ss.getD i [] < ss.getD j []), rfl, Walks.list (A := A.in1) hh _ a (Nat.ne_of_lt hlt) items, ⟨isListIter_new _ _, hl.isList.push _⟩, ?_, by omega, ?_, ?_⟩
  · intro b hb
    show b < (s.heap.push _).objs.size
    rw [Heap.size_push]
    simp at hb
    rcases hb with rfl | rfl
    · exact Nat.lt_succ_self _
    · exact Nat.lt_succ_of_lt hlt
  · intro i j vi vj s' Q' E' hi hj hq
    obtain ⟨t, rfl, _⟩ := hget i vi hi
    obtain ⟨u, rfl, _⟩ := hget j vj hj
    exact PyProof.Rows.lt_str hq
  · intro v h' tk hP hk
    obtain ⟨b1, b2⟩ := argBest_min (fun i => ss.getD i []) (items.size - 1)
    obtain ⟨t, rfl, hlt'⟩ := hget _ _ hP
    refine h _ t _ ?_ (fun y hy => ?_) (F.step (Ext.heap (s := s) fun b o _ e => hk b o (by simp; exact Nat.ne_of_lt (Heap.lt_size e)) (Heap.get?_push_of_some _ e)))
    · rw [List.getD_eq_getElem?_getD, List.getElem?_eq_getElem hlt']; exact List.getElem_mem hlt'
    · obtain ⟨j, hj, rfl⟩ := List.mem_iff_getElem.mp hy
      have := b2 j (by omega)
      rwa [show ss.getD j [] = ss[j] by rw [List.getD_eq_getElem?_getD, List.getElem?_eq_getElem hj]; rfl] at this
theorem maxL (F : Fs D g L m news s) (hh : A.handled = none) {a : Addr} {items : Array Value} {ss : List (List Nat)} (hl : s.heap.PlainList a items) (hv : SV items.toList ss) (hne : ss ≠ [])
    (h : ∀ x t s', x ∈ ss → (∀ y ∈ ss, ¬ x < y) → Fs D g L m news s' → Q (.str (S x) t) s') : wpAny (model prog w) A (call (.builtin "max") [.ref a]) Q E s := by
  have hz : items.size = ss.length := by rw [← Array.length_toList]; exact hv.len
  have hpos : 0 < ss.length := List.length_pos_iff.mpr hne
  have hget : ∀ i v, items[i]? = some v → ∃ t, v = .str (S (ss.getD i [])) t ∧ i < ss.length := fun i v e => by
    obtain ⟨x, t, hx, rfl⟩ := hv.get (i := i) (v := v) (by simpa using e)
    exact ⟨t, by rw [List.getD_eq_getElem?_getD, hx]; rfl, (List.getElem?_eq_some_iff.mp hx).1⟩
  refine call_max_walk (wpAny_pyIter_list hl.isList ?_)
  obtain ⟨ol, hol⟩ := id hl
  have hlt : a < s.heap.objs.size := Heap.lt_size hol
  refine ⟨s.heap.objs.size, _, _, _, _, _, fun i j => decide (ss.getD j [] < ss.getD i []), rfl, Walks.list (A := A.in1) hh _ a (Nat.ne_of_lt hlt) items, ⟨isListIter_new _ _, hl.isList.push _⟩, ?_, by omega, ?_, ?_⟩
  · intro b hb
    show b < (s.heap.push _).objs.size
    rw [Heap.size_push]
    simp at hb
    rcases hb with rfl | rfl
    · exact Nat.lt_succ_self _
    · exact Nat.lt_succ_of_lt hlt
  · intro i j vi vj s' Q' E' hi hj hq
    obtain ⟨t, rfl, _⟩ := hget i vi hi
    obtain ⟨u, rfl, _⟩ := hget j vj hj
    exact PySem.P.gt_str hq
  · intro v h' tk hP hk
    obtain ⟨b1, b2⟩ := argBest_max (fun i => ss.getD i []) (items.size - 1)
    obtain ⟨t, rfl, hlt'⟩ := hget _ _ hP
    refine h _ t _ ?_ (fun y hy => ?_) (F.step (Ext.heap (s := s) fun b o _ e => hk b o (by simp; exact Nat.ne_of_lt (Heap.lt_size e)) (Heap.get?_push_of_some _ e)))
    · rw [List.getD_eq_getElem?_getD, List.getElem?_eq_getElem hlt']; exact List.getElem_mem hlt'
    · obtain ⟨j, hj, rfl⟩ := List.mem_iff_getElem.mp hy
      have := b2 j (by omega)
      rwa [show ss.getD j [] = ss[j] by rw [List.getD_eq_getElem?_getD, List.getElem?_eq_getElem hj]; rfl] at this

/-- the iterator of a list: what a loop wants -/
theorem iterL (F : Fs D g L m news s) {a : Addr} {items : Array Value} (hl : s.heap.PlainList a items)
    (h : ∀ I o s', Fs D g L m ((I, .raw o) :: news) s' → s'.heap.IsListIter I a 0 → s'.heap.get? a = s.heap.get? a → a ≠ I → Q (.ref I) s') : wpAny (model prog w) A (pyIter (.ref a)) Q E s := by
  refine wpAny_pyIter_list hl.isList ?_
  obtain ⟨ol, hol⟩ := hl
  exact h _ _ _ (F.push _ (.raw _) s.toks (Heap.get?_push_size _ rfl)) (isListIter_new _ _) ((Heap.get?_push_of_some _ hol).trans hol.symm) (Nat.ne_of_lt (Heap.lt_size hol))
theorem listWalks (hh : A.handled = none) {I a : Addr} (hne : a ≠ I) (items : Array Value) {prog : Program} {w : World} :
    Walks prog w A I [I, a] [I] items.size (fun i v => items[i]? = some v) (fun i h => h.IsListIter I a i ∧ h.IsList a items) := Walks.list hh I a hne items

/-- a comprehension over a list of texts, its elements texts -/
theorem compSL (F : Fs D g L m news s) (hh : A.handled = none) {a : Addr} {items : Array Value} {ss : List (List Nat)} {nm : Str} {scope : Scope} {cl : List (Str × Addr)} {elt : Expr} {fin : (Str → Option Value) → Addr → List (Addr × Sh) → Shared → Prop} (f : List Nat → List Nat)
    (o : Obj) (ho : ∀ C mC pre s', Fs D g C mC (pre ++ news) s' → s'.heap.get? a = some o) (hl : s.heap.PlainList a items) (hv : SV items.toList ss) (hx : ss.length ≤ 100000)
    (step : ∀ x t pre C s' E', x ∈ ss → Fs D g C (fun y => if y = nm then some (.str (S x) t) else none) (pre ++ news) s' →
      wpAny (model prog w) A (eval elt (compEnvC scope cl C env)) (fun y s'' => (∃ t, y = .str (S (f x)) t) ∧ Fs D g C (fun y => if y = nm then some (.str (S x) t) else none) (pre ++ news) s'') E' s')
    (hfin : ∀ acc ys s', SV ys (ss.map f) → Fs D g L m ((acc, .list ys.toArray) :: news) s' → fin m acc ((acc, .list ys.toArray) :: news) s') :
    wpAny (model prog w) A (pyIter (.ref a)) (CompGo prog w A D g L env nm scope cl elt fin) E s := by
  refine iterL F hl fun I oI s₁ F1 hit he hne => ?_
  have ho0 := ho L m [] s (by simpa using F)
  have hz : items.size = ss.length := by rw [← Array.length_toList]; exact hv.len
  have hl1 : s₁.heap.IsList a items := by obtain ⟨n, e⟩ := hl; exact ⟨_, he.trans e, rfl, n, rfl⟩
  refine ⟨I, _, _, _, _, _, oI, m, news, fun i ys nw => nw = news ∧ SV ys.toList ((ss.take i).map f), [(a, o)], rfl, listWalks hh hne items, by simp, by simp, fun i h hst => let ⟨⟨o, e, _⟩, _⟩ := hst; ⟨o, e⟩, F1, ⟨hit, hl1⟩, ⟨rfl, by simpa using SV.nil⟩, by omega, ?_, ?_, ?_⟩
  · rintro i ys C mC news' pre s' ⟨rfl, _⟩ F' p hp
    rw [List.mem_singleton.mp hp]; exact ho _ _ _ _ F'
  · rintro i v ys C acc oL news' o' s' E' hi hv' ⟨rfl, hys⟩ hsz F'
    obtain ⟨x, t, hxi, rfl⟩ := hv.get (i := i) (v := v) (by simpa using hv')
    refine wpAny_mono (step x t [(I, .raw o'), (acc, .list ys), (L, .raw oL)] C s' E' (List.mem_of_getElem? hxi) F') (fun y s'' h => ?_) fun _ _ e => e
    obtain ⟨⟨t', rfl⟩, F''⟩ := h
    refine ⟨news', F'', rfl, ?_⟩
    rw [Array.toList_push, List.take_add_one, hxi, List.map_append]
    exact hys.snoc _ _
  · rintro acc ys news' s' ⟨rfl, hys⟩ F'
    rw [hz, List.take_of_length_le (Nat.le_refl _)] at hys
    exact hfin acc ys.toList s' hys F'

/-- rising by signs -/
def Rising (l : List (List Nat)) : Prop := l.Pairwise fun a b => ¬ b < a
theorem ltNT {a b c : List Nat} (h : ¬ b < a) (h' : ¬ c < b) : ¬ c < a := List.not_lt.mpr (List.le_trans (List.not_lt.mp h) (List.not_lt.mp h'))
theorem rising_from : ∀ {r : List Str} {x : Str}, risingS x r = true → Rising ((x :: r).map fun x => x.cps.toList)
  | [], x, _ => by simp [Rising]
  | y :: r, x, h => by
    simp only [risingS, Bool.and_eq_true, Bool.not_eq_true', ltCps_eq, decide_eq_false_iff_not] at h
    have ih := rising_from h.2
    rw [List.map_cons]
    refine List.Pairwise.cons (fun z hz => ?_) ih
    rw [List.map_cons] at ih hz
    rcases List.mem_cons.mp hz with rfl | hz
    · exact h.1
    · exact ltNT h.1 ((List.pairwise_cons.mp ih).1 z hz)
theorem rising_of : ∀ {l : List Str}, sortedS l = true → Rising (l.map fun x => x.cps.toList)
  | [], _ => List.Pairwise.nil
  | _ :: _, h => rising_from h
/-- a made object into the ledger -/
theorem Fs.add {s' : Shared} {m' : Str → Option Value} (F : Fs D g L m news s) (F' : Fs D g L m' news s') {a : Addr} {x : Sh} (ha : s.heap.objs.size ≤ a) (hx : x.at s'.heap a) : Fs D g L m' ((a, x) :: news) s' := by
  refine ⟨F'.ext, F'.loc, F'.newL, fun p hp => ?_, fun p hp => ?_, ?_⟩
  · rcases List.mem_cons.mp hp with rfl | hp
    · exact hx
    · exact F'.led p hp
  · rcases List.mem_cons.mp hp with rfl | hp
    · exact .inr (Nat.le_trans (Nat.le_of_lt (Nat.lt_of_le_of_lt F.newL F.ltL)) ha)
    · exact F'.own p hp
  · have h1 := F'.nd
    have h2 : L < a := Nat.lt_of_lt_of_le F.ltL ha
    have h3 : ∀ b ∈ news.map (·.1), b < a := fun b hb => by
      obtain ⟨p, hp, rfl⟩ := List.mem_map.mp hb
      exact Nat.lt_of_lt_of_le (F.lt hp) ha
    rw [List.nodup_cons] at h1 ⊢
    refine ⟨fun q => ?_, ?_⟩
    · rcases List.mem_cons.mp q with q | q
      · exact absurd q (Nat.ne_of_lt h2)
      · exact h1.1 q
    · show (a :: news.map (·.1)).Nodup
      rw [List.nodup_cons]
      exact ⟨fun q => Nat.lt_irrefl _ (h3 _ q), h1.2⟩
theorem map_cps : ∀ ss : List (List Nat), (ss.map S).map (fun x => x.cps.toList) = ss
  | [] => rfl
  | a :: r => by rw [List.map_cons, List.map_cons, map_cps r]; rfl
theorem map_S (ss : List Str) : (ss.map (fun x => x.cps.toList)).map S = ss := by
  induction ss with
  | nil => rfl
  | cons a r ih => rw [List.map_cons, List.map_cons, ih]; rfl
theorem sortL (F : Fs D g L m news s) {a : Addr} {items : Array Value} {ss : List (List Nat)} (hl : s.heap.PlainList a items) (hv : SV items.toList ss) (hz : ss.length < 64)
    (h : ∀ c ys ts s', SV ys ts → ts.Perm ss → Rising ts → Fs D g L m ((c, .list ys.toArray) :: news) s' → s.heap.objs.size ≤ c → Q (.ref c) s') : wpAny (model prog w) A (call (.builtin "sorted") [.ref a]) Q E s := by
  refine PyProof.Rows.sorted_strs (vs := items.toList) (by simpa using hl.isList) hv.strs (by rw [hv.len]; exact hz) fun out ss' h1 h2 h3 => ?_
  obtain ⟨e, he⟩ := sortedAll_at s.heap items.toList out
  have F1 : Fs D g L m news { s with heap := sortedAll s.heap items.toList out } := F.step (Ext.heap fun b o _ e => sortedAll_old e)
  have hp := h2.map fun x => x.cps.toList
  rw [map_cps] at hp
  have F2 := F.add F1 (a := s.heap.objs.size + 1) (x := .list out) (Nat.le_succ _) ⟨e, he⟩
  exact h _ out.toList _ _ (SV.of h1) hp (rising_of h3) (by simpa using F2) (Nat.le_succ _)
end

/-- the common beginning of two -/
def lcp : List Nat → List Nat → List Nat
  | a :: r, b :: t => if a = b then a :: lcp r t else []
  | _, _ => []
theorem lcp_l : ∀ a b : List Nat, lcp a b <+: a
  | [], _ => by simp [lcp]
  | a :: r, [] => by simp [lcp]
  | a :: r, b :: t => by
    unfold lcp
    split
    · exact (List.prefix_cons_inj a).mpr (lcp_l r t)
    · exact List.nil_prefix
theorem lcp_r : ∀ a b : List Nat, lcp a b <+: b
  | [], _ => by simp [lcp]
  | a :: r, [] => by simp [lcp]
  | a :: r, b :: t => by
    unfold lcp
    split
    · rename_i h; subst h; exact (List.prefix_cons_inj a).mpr (lcp_r r t)
    · exact List.nil_prefix
theorem lcp_max : ∀ {q a b : List Nat}, q <+: a → q <+: b → q <+: lcp a b
  | [], _, _, _, _ => List.nil_prefix
  | x :: q, a, b, h, h' => by
    obtain ⟨u, rfl⟩ := h
    obtain ⟨v, rfl⟩ := h'
    show _ <+: lcp (x :: (q ++ u)) (x :: (q ++ v))
    unfold lcp
    rw [if_pos rfl]
    exact (List.prefix_cons_inj x).mpr (lcp_max (List.prefix_append q u) (List.prefix_append q v))
theorem lcp_mid : ∀ {a s b : List Nat}, ¬ s < a → ¬ b < s → lcp a b <+: s
  | [], _, _, _, _ => by simp [lcp]
  | x :: a, s, [], _, _ => by simp [lcp]
  | x :: a, s, y :: b, h, h' => by
    unfold lcp
    split
    · rename_i e; subst e
      cases s with
      | nil => exact absurd (by simp) h
      | cons z s =>
        rw [List.cons_lt_cons_iff] at h h'
        have hz : z = x := by omega
        subst hz
        exact (List.prefix_cons_inj z).mpr (lcp_mid (fun q => h (.inr ⟨rfl, q⟩)) fun q => h' (.inr ⟨rfl, q⟩))
    · exact List.nil_prefix
/-- the longest with which all begin -/
def IsCp (ss : List (List Nat)) (p : List Nat) : Prop := (∀ s ∈ ss, p <+: s) ∧ ∀ q, (∀ s ∈ ss, q <+: s) → q <+: p
theorem IsCp.uniq {ss : List (List Nat)} {p q : List Nat} (h : IsCp ss p) (h' : IsCp ss q) : p = q :=
  (h'.2 p h.1).eq_of_length (Nat.le_antisymm (h'.2 p h.1).length_le (h.2 q h'.1).length_le)
theorem IsCp.of {ss : List (List Nat)} {a b : List Nat} (ha : a ∈ ss) (ha' : ∀ y ∈ ss, ¬ y < a) (hb : b ∈ ss) (hb' : ∀ y ∈ ss, ¬ b < y) : IsCp ss (lcp a b) :=
  ⟨fun s hs => lcp_mid (ha' s hs) (hb' s hs), fun _ hq => lcp_max (hq a ha) (hq b hb)⟩
theorem IsCp.perm {ss ts : List (List Nat)} {p : List Nat} (h : IsCp ss p) (e : ts.Perm ss) : IsCp ts p :=
  ⟨fun s hs => h.1 s (e.mem_iff.mp hs), fun q hq => h.2 q fun s hs => hq s (e.mem_iff.mpr hs)⟩
/-- where the two still agree -/
theorem lcp_cut : ∀ {a b : List Nat} {i : Nat} {c d : Nat}, a.take i = b.take i → a[i]? = some c → b[i]? = some d → c ≠ d → lcp a b = a.take i
  | [], _, _, _, _, _, h, _, _ => by simp at h
  | _ :: _, [], _, _, _, _, _, h, _ => by simp at h
  | x :: a, y :: b, 0, c, d, _, h, h', hne => by
    simp at h h'; subst h; subst h'
    unfold lcp; rw [if_neg hne]; simp
  | x :: a, y :: b, i + 1, c, d, he, h, h', hne => by
    simp only [List.take_succ_cons, List.cons.injEq] at he
    unfold lcp; rw [if_pos he.1, List.take_succ_cons, lcp_cut he.2 (by simpa using h) (by simpa using h') hne]
theorem lcp_all : ∀ {a b : List Nat}, a <+: b → lcp a b = a
  | [], _, _ => by simp [lcp]
  | x :: a, b, h => by
    obtain ⟨u, rfl⟩ := h
    show lcp (x :: a) (x :: (a ++ u)) = _
    unfold lcp; rw [if_pos rfl, lcp_all (List.prefix_append a u)]
/-- the greater one is at least as long where they agree -/
theorem lt_at : ∀ {a b : List Nat} {i : Nat} {c : Nat}, ¬ b < a → a.take i = b.take i → a[i]? = some c → ∃ d, b[i]? = some d
  | [], _, _, _, _, _, h => by simp at h
  | x :: a, [], 0, c, h, _, _ => absurd (by simp) h
  | x :: a, [], i + 1, c, h, _, _ => absurd (by simp) h
  | x :: a, y :: b, 0, c, _, _, _ => ⟨y, rfl⟩
  | x :: a, y :: b, i + 1, c, h, he, hc => by
    simp only [List.take_succ_cons, List.cons.injEq] at he
    obtain ⟨rfl, he⟩ := he
    have := lt_at (a := a) (b := b) (i := i) (c := c) (fun q => h (by rw [List.cons_lt_cons_iff]; exact .inr ⟨rfl, q⟩)) he (by simpa using hc)
    simpa using this

/-- the frames that stand below -/
def frs (A : Around) : List Addr := (A.frames.getD []).filterMap (·.frame)
def Up (k : Nat) (A : Around) (h : Heap) : Prop := ∃ l, A.frames = some l ∧ ∀ env ∈ l, env.scope.kind ≠ .module ∧ ∃ L, env.frame = some L ∧ k ≤ L ∧ ∃ m, h.Ns L m
theorem ns_soft {s s' : Shared} {L : Addr} {m : Str → Option Value} (n : s.heap.Ns L m) (x : ∀ b o, s.heap.get? b = some o → (∃ es ep, o.data = .dict es ep) → ∃ sl, s'.heap.get? b = some { o with slots := sl }) : s'.heap.Ns L m := by
  obtain ⟨o, es, ep, ho, hd, r⟩ := n
  obtain ⟨sl, e⟩ := x L o ho ⟨es, ep, hd⟩
  exact ⟨_, es, ep, e, hd, r⟩
theorem Up.ext {k : Nat} {A : Around} {s s' : Shared} {D : List Addr} (U : Up k A s.heap) (x : Ext D s s') : Up k A s'.heap := by
  obtain ⟨l, hl, h⟩ := U
  refine ⟨l, hl, fun env he => ?_⟩
  obtain ⟨h1, L, h2, h3, m, n⟩ := h env he
  exact ⟨h1, L, h2, h3, m, ns_soft n x.soft⟩
theorem Up.in1 {k : Nat} {A : Around} {h : Heap} (U : Up k A h) : Up k A.in1 h := U
theorem frames_deeper {A : Around} {env : Env} {l : List Env} (h : A.frames = some l) : (A.deeper env).frames = some (env :: l) := Around.frames_deeper h
theorem Up.deeper {k : Nat} {A : Around} {g s : Shared} {D : List Addr} {L : Addr} {m : Str → Option Value} {news : List (Addr × Sh)} {env : Env} (U : Up k A g.heap) (F : Fs D g L m news s)
    (hf : env.frame = some L) (hk : env.scope.kind ≠ .module) (hL : k ≤ L) : Up k (A.deeper env) s.heap := by
  obtain ⟨l, hl, h⟩ := U.ext F.ext
  refine ⟨env :: l, frames_deeper hl, fun e he => ?_⟩
  rcases List.mem_cons.mp he with rfl | he
  · obtain ⟨m₀, n, _⟩ := F.loc
    exact ⟨hk, L, hf, hL, m₀, n⟩
  · exact h e he
theorem frs_deeper {A : Around} {env : Env} {L : Addr} {l : List Env} (hl : A.frames = some l) (hf : env.frame = some L) : frs (A.deeper env) = L :: frs A := by
  unfold frs
  rw [frames_deeper hl, hl]
  simp [hf]
theorem Up.mem {k : Nat} {A : Around} {h : Heap} (U : Up k A h) {b : Addr} (hb : b ∈ frs A) : k ≤ b ∧ ∃ m, h.Ns b m := by
  obtain ⟨l, hl, h⟩ := U
  unfold frs at hb
  rw [hl] at hb
  obtain ⟨env, he, hf⟩ := List.mem_filterMap.mp hb
  obtain ⟨_, L, h2, h3, h4⟩ := h env he
  rw [h2] at hf; cases hf
  exact ⟨h3, h4⟩

/-- a heap with some of it gone -/
def wipe (h : Heap) : List Addr → Heap
  | [] => h
  | a :: r => (wipe h r).update a fun o => { o with data := .freed }
theorem wipe_not (h : Heap) : ∀ {l : List Addr} {b : Addr}, b ∉ l → (wipe h l).get? b = h.get? b
  | [], _, _ => rfl
  | a :: r, b, hb => by
    unfold wipe
    rw [Heap.get?_update_other _ _ (fun q : a = b => hb (by rw [q]; exact .head _)), wipe_not h fun q => hb (.tail _ q)]
theorem freed_get (h : Heap) (a : Addr) : (h.update a fun o => { o with data := .freed }).get? a = none := by
  cases h with
  | mk objs l =>
    show Heap.get? ⟨objs.modify a _, l⟩ a = none
    unfold Heap.get?
    simp only [Array.getElem?_modify, if_true]
    cases objs[a]? with
    | none => rfl
    | some o => rfl
theorem wipe_in (h : Heap) : ∀ {l : List Addr} {b : Addr}, b ∈ l → (wipe h l).get? b = none
  | a :: r, b, hb => by
    unfold wipe
    by_cases q : b = a
    · subst q; exact freed_get _ _
    · rw [Heap.get?_update_other _ _ (Ne.symm q)]
      exact wipe_in h ((List.mem_cons.mp hb).resolve_left q)
theorem wipe_stays (h : Heap) (l : List Addr) : (wipe h l).StaysIn h := fun b o e => by
  by_cases q : b ∈ l
  · rw [wipe_in h q] at e; cases e
  · rw [wipe_not h q] at e; exact e
theorem Up.fun {k : Nat} {A : Around} {h : Heap} (U : Up k A h) {l : List Env} (hl : A.frames = some l) {rm : List Addr} (hr : ∀ b ∈ frs A, b ∈ rm) : h.FunFrames (wipe h rm) l := by
  obtain ⟨l', hl', hU⟩ := U
  rw [hl] at hl'; cases hl'
  have hr' : ∀ env ∈ l, ∀ L, env.frame = some L → L ∈ rm := fun env he L hf => hr L (by unfold frs; rw [hl]; exact List.mem_filterMap.mpr ⟨env, he, hf⟩)
  clear hr hl
  induction l with
  | nil => trivial
  | cons env r ih =>
    obtain ⟨h1, L, h2, _, m, o, es, ep, ho, hd, _⟩ := hU env (.head _)
    exact ⟨h1, ⟨L, o, h2, wipe_in h (hr' env (.head _) L h2), ho, fun vs q => by rw [hd] at q; cases q⟩, ih (fun e he => hU e (.tail _ he)) fun e he => hr' e (.tail _ he)⟩

/-- an exception with its trace, none in flight -/
def Trd (h : Heap) (e T : Addr) (cls : Value) : Prop :=
  ∃ oe vs oT ts, h.get? e = some oe ∧ oe.cls = cls ∧ oe.data = .fields vs ∧ vs[1]? = some (.ref T) ∧ T ≠ e ∧ h.get? T = some oT ∧ oT.data = .fields ts ∧ ts[3]? = some .none
def Gone (g : Shared) (a : Addr) : Prop := g.heap.get? a = none

section
variable {M : Model} {A : Around} {E : Value → Shared → Prop} {s g : Shared} {env : Env} {outer : List Env} {e T : Addr} {cls : Value} {k : Nat} {D : List Addr} {Q : Unit → Shared → Prop}
/-- what is left behind a frame's leaving, seen from the call's start -/
theorem left_ext (X : Ext D g s) (hal : ∀ b ∈ D, (∃ o, s.heap.get? b = some o) ∨ Gone g b) (U : Up k A s.heap) (hfr : A.frames = some (env :: outer)) (rm : List Addr) {h' : Heap}
    (hrm : ∀ b ∈ rm, Gone g b ∧ ∃ o vs, s.heap.get? b = some o ∧ o.data = .fields vs) (hL : Heap.Left (wipe s.heap (rm ++ frs A)) (env :: outer) e cls s.heap h') :
    Ext (D ++ frs A) g { s with heap := h' } ∧ (∀ b o, b ∉ frs A → ¬ Gone g b → s.heap.get? b = some o → h'.get? b = some o) ∧ ∃ T', (T' ∈ rm ∨ Gone g T') ∧ Trd h' e T' cls := by
  obtain ⟨k1, k2, ⟨oe, vs, T', oT, ts, t1, t2, t3, t4, t5, t6, t7, t8, t9⟩, k4⟩ := hL
  have hnotD : ∀ b, b ∉ rm ++ frs A → ∀ o, s.heap.get? b = some o → h'.get? b = some o := fun b hb o e => k1 b o ((wipe_not s.heap hb).trans e)
  refine ⟨⟨fun b o hb e => ?_, X.os, X.gens, X.bare, fun b o e hd => ?_⟩, fun b o hb hg e => hnotD b (fun q => ?_) o e, T', ?_, oe, vs, oT, ts, t1, t2, t3, t4, t6, t7, t8, t9⟩
  · refine hnotD b (fun q => ?_) o (X.keep b o (fun q => hb (List.mem_append_left _ q)) e)
    rcases List.mem_append.mp q with q | q
    · have := (hrm b q).1; unfold Gone at this; rw [this] at e; cases e
    · exact hb (List.mem_append_right _ q)
  · obtain ⟨sl, e1⟩ := X.soft b o e hd
    obtain ⟨es, ep, hd⟩ := hd
    obtain ⟨sl', e2⟩ := k4 b _ e1 fun vs q => by rw [show o.data = _ from q] at hd; cases hd
    exact ⟨sl', e2⟩
  · rcases List.mem_append.mp q with q | q
    · exact hg (hrm b q).1
    · exact hb q
  · by_cases q : T' ∈ rm ++ frs A
    · rcases List.mem_append.mp q with q | q
      · exact .inl q
      · obtain ⟨_, m, o, es, ep, ho, hd, _⟩ := U.mem q
        obtain ⟨sl, e2⟩ := k4 T' o ho fun vs q => by rw [hd] at q; cases q
        rw [t7] at e2; cases e2
        rw [show (Obj.data _) = _ from hd] at t8; cases t8
    · refine .inr ?_
      have hn : s.heap.get? T' = none := by rw [← wipe_not s.heap q]; exact t5
      show g.heap.get? T' = none
      cases hg : g.heap.get? T' with
      | none => rfl
      | some o =>
        by_cases hD : T' ∈ D
        · rcases hal T' hD with ⟨o', e⟩ | h
          · rw [hn] at e; cases e
          · unfold Gone at h; rw [h] at hg; cases hg
        · have := X.keep T' o hD hg; rw [hn] at this; cases this
theorem leaveNew {h' : Heap} {c : String} {args : List Value} {L : Addr} (X : Ext D g s) (hal : ∀ b ∈ D, (∃ o, s.heap.get? b = some o) ∨ Gone g b) (U : Up k A s.heap) (hfr : A.frames = some (env :: outer)) (hf : env.frame = some L) (hm : Heap.MadeExc s.heap h' e c args)
    (hg : Gone g e) (h : ∀ s' T, Ext (D ++ frs A) g s' → Gone g T → Trd s'.heap e T (.type c) → (∀ b o, b ∉ frs A → ¬ Gone g b → s.heap.get? b = some o → s'.heap.get? b = some o) → Q () s') : wpAny M A (leaving env (.ref e)) Q E { s with heap := h' } := by
  obtain ⟨t, he, _, _⟩ := hm.there
  have X' : Ext D g { s with heap := h' } := X.trans ((Ext.heap (s := s) (tk := s.toks) fun b o _ e => hm.keeps b o e).mono (by simp))
  have U' : Up k A ({ s with heap := h' } : Shared).heap := U.ext (Ext.heap (s := s) (tk := s.toks) fun b o _ e => hm.keeps b o e)
  have hal' : ∀ b ∈ D, (∃ o, ({ s with heap := h' } : Shared).heap.get? b = some o) ∨ Gone g b := fun b hb => (hal b hb).imp (fun ⟨o, e⟩ => ⟨o, hm.keeps b o e⟩) id
  refine wpAny_leaving_first (base := wipe h' ([e] ++ frs A)) hfr (U'.fun hfr fun b hb => List.mem_append_right _ hb) hf he (wipe_stays _ _) (wipe_in _ (by simp)) rfl rfl fun h'' hL => ?_
  obtain ⟨x, kp, T, hT, ht⟩ := left_ext (s := { s with heap := h' }) X' hal' U' hfr [e] (fun b hb => by rw [List.mem_singleton.mp hb]; exact ⟨hg, _, _, he, rfl⟩) hL
  refine h _ T x ?_ ht fun b o hb hg e => kp b o hb hg (hm.keeps b o e)
  rcases hT with hT | hT
  · rw [List.mem_singleton.mp hT]; exact hg
  · exact hT
theorem leaveOn {L : Addr} (X : Ext D g s) (hal : ∀ b ∈ D, (∃ o, s.heap.get? b = some o) ∨ Gone g b) (U : Up k A s.heap) (hfr : A.frames = some (env :: outer)) (hf : env.frame = some L) (ht : Trd s.heap e T cls)
    (hg : Gone g e) (hg' : Gone g T) (h : ∀ s' T, Ext (D ++ frs A) g s' → Gone g T → Trd s'.heap e T cls → (∀ b o, b ∉ frs A → ¬ Gone g b → s.heap.get? b = some o → s'.heap.get? b = some o) → Q () s') : wpAny M A (leaving env (.ref e)) Q E s := by
  obtain ⟨oe, vs, oT, ts, t1, t2, t3, t4, t5, t6, t7, t8⟩ := ht
  refine wpAny_leaving_next (base := wipe s.heap ([e, T] ++ frs A)) hfr (U.fun hfr fun b hb => List.mem_append_right _ hb) hf ⟨oe, vs, T, oT, ts, t1, t2, t3, t4, wipe_in _ (by simp), t5, t6, t7, t8⟩ (wipe_stays _ _) (wipe_in _ (by simp)) fun h'' hL => ?_
  obtain ⟨x, kp, T', hT, ht⟩ := left_ext X hal U hfr [e, T] (fun b hb => by
    rcases List.mem_cons.mp hb with rfl | hb
    · exact ⟨hg, _, _, t1, t3⟩
    · rw [List.mem_singleton.mp hb]; exact ⟨hg', _, _, t6, t7⟩) hL
  refine h _ T' x ?_ ht kp
  rcases hT with hT | hT
  · rcases List.mem_cons.mp hT with rfl | hT
    · exact hg
    · rw [List.mem_singleton.mp hT]; exact hg'
  · exact hT
end
/-- less may have changed -/
theorem Ext.less {D D' : List Addr} {g s : Shared} (x : Ext D' g s) (h : ∀ d ∈ D', d ∈ D ∨ g.heap.objs.size ≤ d) (h1 : 1 ∈ D' → 1 ∈ D) : Ext D g s :=
  ⟨fun b o hb e => x.keep b o (fun q => (h b q).elim hb fun h => Nat.lt_irrefl _ (Nat.lt_of_lt_of_le (Heap.lt_size e) h)) e, x.os, x.gens, x.bare, x.soft⟩
/-- a call that ends in the end of an iterator -/
def Thr (D : List Addr) (g : Shared) (r : Result) (s' : Shared) : Prop := ∃ e T, r = .error (.ref e) ∧ Ext D g s' ∧ Gone g e ∧ Gone g T ∧ Trd s'.heap e T (.type "StopIteration")

/-- a list's iterator at i, and one that is spent -/
abbrev liO (l : Addr) (i : Nat) : Obj := { cls := .type "list_iterator", data := .fields #[.ref l, .int i 0] }
abbrev liE (i : Nat) : Obj := { cls := .type "list_iterator", data := .fields #[.none, .int i 0] }
section
variable {prog : Program} {w : World} {A : Around} {s : Shared} {E : Value → Shared → Prop} {Q : Value → Shared → Prop} {it l : Addr} {i : Nat}
theorem next_open (hT : s.TypeIs (.ref it) "list_iterator")
    (h : wpAny (model prog w) A.in1 (callSpecial? (.ref it) (Str.ofString "__next__")) (fun r s' => ∃ v, r = some v ∧ Q v s') E s) :
    wpAny (model prog w) A (call (.builtin "next") [.ref it]) Q E s := by
  refine call_function_entry (by decide +kernel) (by decide +kernel) kdk_entry_next (kdk_args_next _) ?_
  unfold Builtin.«next»
  refine wpAny_bind (m := someArgs "next" 1 2 _) (wpAny_of_eq (a := [Value.ref it]) (by first | rfl | kernel_rfl!) ?_)
  dsimp only
  refine wpAny_bind (wpAny_specialOf (name := Str.ofString "__next__") hT slot_listiter_next.lookup ?_)
  refine wpAny_ite_split (fun hab => absurd hab (by decide)) (fun _ => ?_)
  refine wpAny_bind (wpAny_mono h (fun r s' hr => ?_) fun _ _ e => e)
  obtain ⟨v, rfl, hv⟩ := hr
  exact wpAny_pure ⟨_, rfl, hv⟩
theorem stop_new {α : Type} {Q : α → Shared → Prop} (hh : A.handled = none) (h : ∀ h' e, Heap.MadeExc s.heap h' e "StopIteration" [] → E (.ref e) { s with heap := h' }) :
    wpAny (model prog w) A (do raiseNew (← newExc (.type "StopIteration") []) : Sem α) Q E s := by
  refine wpAny_bind ?_
  simp only [newExc, newTuple]
  refine wpAny_bind (wpAny_newObj_type ?_ (by size_fits))
  refine wpAny_bind (m := firstArgMember _ _) (wpAny_of_eq (a := Value.none) (by first | rfl | (simp only [firstArgMember]; rfl)) ?_)
  refine wpAny_newObj_type ?_ (by size_fits)
  refine wpAny_raiseNew_none hh (h _ _ ⟨fun b o hb => Heap.get?_push_of_some _ (Heap.get?_push_of_some _ hb), Heap.get?_none_of_le (by simp), s.heap.objs.size, ?_, Heap.get?_none_of_le (Nat.le_refl _), ?_⟩)
  · exact Heap.get?_push_size _ rfl
  · exact Heap.get?_push_of_some _ (Heap.get?_push_size _ rfl)
theorem next_item {items : Array Value} {x : Value} (hit : s.heap.get? it = some (liO l i)) (hl : s.heap.IsList l items) (hx : items[i]? = some x)
    (hQ : ∀ h', h'.get? it = some (liO l (i + 1)) → Heap.SameBut it s.heap h' → Q x { s with heap := h' }) : wpAny (model prog w) A (call (.builtin "next") [.ref it]) Q E s := by
  have hT : s.TypeIs (.ref it) "list_iterator" := ⟨_, hit, rfl⟩
  obtain ⟨ol, hol, _, nl, hdl⟩ := hl
  refine next_open hT (wpAny_callSpecial?_slot (name := Str.ofString "__next__") hT slot_listiter_next (wpAny_call_entry slot_listiter_next hT entry_listiter_next ?_ (args_listiter_next _)))
  show wpAny _ _ (field (.ref it) 0 >>= _) _ _ s
  refine wpAny_bind (wpAny_field hit rfl (x := .ref l) rfl ?_)
  refine wpAny_ite_split (fun hab => absurd hab Bool.false_ne_true) (fun _ => ?_)
  show wpAny _ _ (field (.ref it) 1 >>= _) _ _ s
  refine wpAny_bind (wpAny_field hit rfl (x := .int i 0) rfl ?_)
  show wpAny _ _ (seqItems? (.ref l) >>= _) _ _ s
  refine wpAny_bind (wpAny_seqItems hol hdl ?_)
  simp only [Int.toNat_natCast, hx]
  refine wpAny_bind (wpAny_setField hit rfl (by simp) (wpAny_pure ⟨x, rfl, x, rfl, hQ _ ?_ (Heap.SameBut.update ..)⟩))
  rw [Heap.get?_update_self _ hit rfl]
  rfl
theorem next_end {items : Array Value} (hh : A.handled = none) (hit : s.heap.get? it = some (liO l i)) (hl : s.heap.IsList l items) (hx : items[i]? = none)
    (hE : ∀ h₁ h' e, h₁.get? it = some (liE i) → Heap.SameBut it s.heap h₁ → Heap.MadeExc h₁ h' e "StopIteration" [] → E (.ref e) { s with heap := h' }) : wpAny (model prog w) A (call (.builtin "next") [.ref it]) Q E s := by
  have hT : s.TypeIs (.ref it) "list_iterator" := ⟨_, hit, rfl⟩
  obtain ⟨ol, hol, _, nl, hdl⟩ := hl
  refine next_open hT (wpAny_callSpecial?_slot (name := Str.ofString "__next__") hT slot_listiter_next (wpAny_call_entry slot_listiter_next hT entry_listiter_next ?_ (args_listiter_next _)))
  show wpAny _ _ (field (.ref it) 0 >>= _) _ _ s
  refine wpAny_bind (wpAny_field hit rfl (x := .ref l) rfl ?_)
  refine wpAny_ite_split (fun hab => absurd hab Bool.false_ne_true) (fun _ => ?_)
  show wpAny _ _ (field (.ref it) 1 >>= _) _ _ s
  refine wpAny_bind (wpAny_field hit rfl (x := .int i 0) rfl ?_)
  show wpAny _ _ (seqItems? (.ref l) >>= _) _ _ s
  refine wpAny_bind (wpAny_seqItems hol hdl ?_)
  simp only [Int.toNat_natCast, hx]
  refine wpAny_bind (wpAny_rule (wpAny_bind (wpAny_setField hit rfl (by simp) ?_)))
  refine stop_new hh fun h' e hm => hE _ _ _ ?_ (Heap.SameBut.update ..) hm
  rw [Heap.get?_update_self _ hit rfl]
  rfl
theorem next_over (hh : A.handled = none) (hit : s.heap.get? it = some (liE i))
    (hE : ∀ h' e, Heap.MadeExc s.heap h' e "StopIteration" [] → E (.ref e) { s with heap := h' }) : wpAny (model prog w) A (call (.builtin "next") [.ref it]) Q E s := by
  have hT : s.TypeIs (.ref it) "list_iterator" := ⟨_, hit, rfl⟩
  refine next_open hT (wpAny_callSpecial?_slot (name := Str.ofString "__next__") hT slot_listiter_next (wpAny_call_entry slot_listiter_next hT entry_listiter_next ?_ (args_listiter_next _)))
  show wpAny _ _ (field (.ref it) 0 >>= _) _ _ s
  refine wpAny_bind (wpAny_field hit rfl (x := .none) rfl ?_)
  refine wpAny_ite_split (fun _ => ?_) (fun hab => absurd rfl hab)
  refine wpAny_bind (wpAny_rule ?_)
  exact wpAny_bind (stop_new hh fun h' e hm => hE _ _ hm)
/-- iter(list) -/
theorem iter_list {items : Array Value} (hl : s.heap.IsList l items) (h : Q (.ref s.heap.objs.size) { s with heap := s.heap.push (liO l 0) }) : wpAny (model prog w) A (call (.builtin "iter") [.ref l]) Q E s := by
  refine call_function_entry (by decide +kernel) (by decide +kernel) kdk_entry_iter (kdk_args_iter _) ?_
  unfold Builtin.«iter»
  refine wpAny_bind (m := someArgs "iter" 1 2 _) (wpAny_of_eq (a := [Value.ref l]) (by first | rfl | kernel_rfl!) ?_)
  show wpAny _ _ (pyIter (.ref l) >>= _) _ _ _
  exact wpAny_bind (wpAny_pyIter_list hl (wpAny_pure ⟨_, rfl, h⟩))
end

/-- all that stands but two -/
def others (h : Heap) (L x : Addr) : List (Addr × Obj) := (List.range h.objs.size).filterMap fun b => if b = L ∨ b = x then none else (h.get? b).map fun o => (b, o)
theorem mem_others {h : Heap} {L x b : Addr} {o : Obj} : (b, o) ∈ others h L x ↔ (b ≠ L ∧ b ≠ x) ∧ h.get? b = some o := by
  unfold others
  rw [List.mem_filterMap]
  constructor
  · rintro ⟨c, _, e⟩
    split at e
    · cases e
    · rename_i q
      obtain ⟨o', e1, e2⟩ := Option.map_eq_some_iff.mp e
      cases e2
      exact ⟨not_or.mp q, e1⟩
  · rintro ⟨q, e⟩
    exact ⟨b, List.mem_range.mpr (Heap.lt_size e), by rw [if_neg (not_or.mpr q), e]; rfl⟩
theorem empty_get (b : Addr) : (⟨#[], {}⟩ : Heap).get? b = none := by
  unfold Heap.get?; simp

section
variable {prog : Program} {w : World} {A : Around} {E : Value → Shared → Prop} {D : List Addr} {g s : Shared} {L : Addr} {m : Str → Option Value} {news : List (Addr × Sh)} {x C p : Addr} {ox ox' od : Obj} {name : Str} {v : Value} {i : Nat} {K : Frag}
/-- a ledger's object changed, all else kept but the frame's own identity -/
theorem Fs.upK (F : Fs D g L m news s) {a : Addr} {y y' : Sh} {h' : Heap} {tk : Nat} (pre post : List (Addr × Sh)) (e : news = pre ++ (a, y) :: post) (hx : y'.at h' a) (hk : ∀ b o, b ≠ a → b ≠ L → s.heap.get? b = some o → h'.get? b = some o)
    (hn : ∀ m₀, s.heap.Ns L m₀ → h'.Ns L m₀) : Fs D g L m (pre ++ (a, y') :: post) { s with heap := h', toks := tk } := by
  subst e
  have hm : (a, y) ∈ pre ++ (a, y) :: post := by simp
  have hown := F.own _ hm
  have hnd : (pre.map (·.1) ++ a :: post.map (·.1)).Nodup := by have := (List.nodup_cons.mp F.nd).2; simpa using this
  have hne : ∀ p ∈ pre ++ post, p.1 ≠ a := fun p hp q => by
    rw [List.nodup_append] at hnd
    obtain ⟨_, n2, n3⟩ := hnd
    rcases List.mem_append.mp hp with hp | hp
    · exact n3 _ (List.mem_map_of_mem hp) a (by simp) q
    · exact (List.nodup_cons.mp n2).1 (q ▸ List.mem_map_of_mem hp)
  have key : ∀ p ∈ pre ++ post, p.2.at h' p.1 := fun p hp => by
    have hp' : p ∈ pre ++ (a, y) :: post := by
      rcases List.mem_append.mp hp with h | h
      · exact List.mem_append_left _ h
      · exact List.mem_append_right _ (.tail _ h)
    exact Sh.at_keep (F.led p hp') fun o e => hk _ o (hne p hp) (F.ne hp') e
  refine ⟨F.ext.but (W := [a, L]) (fun b o hb e => hk b o (fun q => hb (by simp [q])) (fun q => hb (by simp [q])) e) (fun b hb => ?_),
    (let ⟨m₀, n, k⟩ := F.loc; ⟨m₀, hn m₀ n, k⟩), F.newL, fun p hp => ?_, fun p hp => ?_, ?_⟩
  · rcases List.mem_cons.mp hb with rfl | hb
    · exact hown
    · exact .inr (List.mem_singleton.mp hb ▸ F.newL)
  · rcases List.mem_append.mp hp with h | h
    · exact key p (List.mem_append_left _ h)
    · rcases List.mem_cons.mp h with rfl | h
      · exact hx
      · exact key p (List.mem_append_right _ h)
  · rcases List.mem_append.mp hp with h | h
    · exact F.own p (List.mem_append_left _ h)
    · rcases List.mem_cons.mp h with rfl | h
      · exact hown
      · exact F.own p (List.mem_append_right _ (List.mem_cons_of_mem _ h))
  · have := F.nd
    simpa using this
/-- a slot read -/
theorem getK {expr : Bool} {Q : Value → Shared → Prop} (F : Fs D g L m news s) (X : K.In s.heap) (hx : s.heap.get? x = some ox) (hcls : ox.cls = .ref C) (hno : notCls ox = true) {dx : Addr} (hdx : ox.dict = some dx) (hod : s.heap.get? dx = some od)
    (hg : plainGet K C name = true) (hc : isClsIn K C = true)
    (ha : findIn K (.ref C) name = some (some (.ref p))) (hn : specialIn K (.ref p) "__get__" = some (some (.builtin "member_descriptor.__get__"))) (ht : takesIn K (.ref p) = some true) (hp : slotIn K p C = some i)
    (hv : (ox.slots[i]?).join = some v) (hh : handedIn v = true) (h : ∀ s', Fs D g L m news s' → s'.heap = s.heap → Q v s') : wpAny (model prog w) A (getAttr (.ref x) name expr) Q E s := by
  have I : InstAt s.heap x ox C (some od) := ⟨hx, hcls, hno, by rw [hdx]; exact hod⟩
  refine get_bind X I (plainGet_of hg).1 (findObj_data hc ha hn ht) (plainGet_of hg).2 (wpAny_call (slot_get (s := { s with toks := s.toks + 1 }) X I hp hv (handed_on hh (h _ (F.tk _) rfl))))
/-- a slot stored -/
theorem setK {Q : Unit → Shared → Prop} (pre post : List (Addr × Sh)) (F : Fs D g L m (pre ++ (x, .raw ox) :: post) s) (X : K.In s.heap) (hcls : ox.cls = .ref C) (hno : notCls ox = true) {dx : Addr} (hdx : ox.dict = some dx) (hod : s.heap.get? dx = some od)
    (hs : findIn K (.ref C) "__setattr__" = some (some (.builtin "object.__setattr__"))) (hp : plainOver K C = true) (ht : takerIn K C name = some (some (.ref p))) (hT : typeIn K (.ref p) = some (.type "member_descriptor")) (hi : slotIn K p C = some i) (hz : i < 1000)
    (e : { ox with slots := (ox.slots ++ Array.replicate (i + 1 - ox.slots.size) none).setIfInBounds i (some v) } = ox') (hf : ox'.isFreed = false)
    (h : ∀ s', Fs D g L m (pre ++ (x, .raw ox') :: post) s' → (∀ b o, b ≠ x → b ≠ L → s.heap.get? b = some o → s'.heap.get? b = some o) → Q () s') : wpAny (model prog w) A (setAttr (.ref x) name v) Q E s := by
  have hm : (x, Sh.raw ox) ∈ pre ++ (x, Sh.raw ox) :: post := by simp
  have hx : s.heap.get? x = some ox := F.get hm
  have hxL : x ≠ L := F.ne hm
  have I : InstAt s.heap x ox C (some od) := ⟨hx, hcls, hno, by rw [hdx]; exact hod⟩
  obtain ⟨m₀, n₀, _⟩ := F.loc
  have F₀ : Fr ⟨#[], {}⟩ L s.heap m₀ := ⟨n₀, (fun b o e => by rw [empty_get] at e; cases e), Nat.zero_le _⟩
  have N₀ : News ⟨#[], {}⟩ L s.heap ([] ++ (x, ox) :: others s.heap L x) := fun q hq => by
    rcases List.mem_cons.mp hq with rfl | hq
    · exact ⟨hx, hxL, empty_get _⟩
    · obtain ⟨b, o⟩ := q
      obtain ⟨⟨h1, _⟩, h3⟩ := mem_others.mp hq
      exact ⟨h3, h1, empty_get _⟩
  refine set_plain X I hs (osa_descr (s := { s with toks := s.toks + 1 }) KF.slot_mset X I hp ht hT (slot_set (s := { s with toks := s.toks + 1 }) F₀ N₀ X I hi hz (fun _ hq => nomatch hq) (fun q hq => ?_) e hf fun h' F' N' => ?_))
  · obtain ⟨b, o⟩ := q; exact (mem_others.mp hq).1.2
  · have hk : ∀ b o, b ≠ x → b ≠ L → s.heap.get? b = some o → h'.get? b = some o := fun b o h1 h2 e => (N' (b, o) (.tail _ (mem_others.mpr ⟨⟨h2, h1⟩, e⟩))).1
    refine h { s with heap := h', toks := s.toks + 1 } (F.upK pre post rfl (y' := .raw ox') (N' (x, ox') (.head _)).1 hk fun m₁ n₁ => ?_) hk
    obtain ⟨o1, es1, ep1, g1, g2, g3, g4⟩ := n₁
    obtain ⟨o0, es0, ep0, f1, f2, f3, f4⟩ := n₀
    obtain rfl : o1 = o0 := Option.some.inj (g1.symm.trans f1)
    have ee : (Data.dict es1 ep1) = Data.dict es0 ep0 := g2.symm.trans f2
    injection ee with ee1 ee2
    subst ee1
    obtain ⟨o2, es2, ep2, k1, k2, k3, k4⟩ := F'.ns
    exact ⟨o2, es2, ep2, k1, k2, k3, fun nm => (k4 nm).trans ((f4 nm).symm.trans (g4 nm))⟩
/-- a def called, what it raises too -/
theorem callK {fd : FuncData} {f : Addr} {body : List Stmt} {args : Args} {binds : List (Str × Value)} {R : Result → Shared → Prop} {d u : Nat} (D : List Addr) (C : Cx A (d + 1) (u + 3)) (W : Wo K s.heap) (hk : K.lookup f = some ⟨.type "function", none, .func fd, #[]⟩)
    (hcd : codeIn K fd.code fd.qualname = true) (hbody : fd.body = .stmts body) (hbind : BindsTo s fd args binds) (hcell : (fd.scope.names.all fun x => x.2 != .cell) = true) (hloc : (binds.all fun x => fd.scope.names.lookup x.1 == some .local) = true)
    (hco : fd.scope.isCoroutine = false) (hgen : fd.scope.isGenerator = false) (hkf : fd.scope.kind = .function)
    (h : ∀ s₁, Cx (A.deeper (callEnv fd s.heap.objs.size f)) d u → Ext [] s s₁ → Fs D s s.heap.objs.size (lk binds.reverse) [] s₁ →
      wpAny (model prog w) (A.deeper (callEnv fd s.heap.objs.size f)) (execs body (callEnv fd s.heap.objs.size f)) (fun fl s' => R (.ok (.ret (retOf fl))) s')
        (fun e s' => wpAny (model prog w) (A.deeper (callEnv fd s.heap.objs.size f)) (leaving (callEnv fd s.heap.objs.size f) e) (fun _ s'' => R (.error e) s'') (fun e' s'' => R (.error e') s'') s') s₁) :
    codeAny (model prog w) A (.call (.ref f) args) R s := by
  refine callF [] (by have := C.dp; omega) (W.X f _ hk) rfl W.lim (codeRec_of W.X hcd) hbody hbind (fun x hx => ?_) (fun x hx => ?_) hco hgen hkf fun s₁ F => h s₁ C.deeper F.ext
    ⟨F.ext.mono (by simp), F.loc, F.newL, F.led, (fun _ h => nomatch h), F.nd⟩
  · have := List.all_eq_true.mp hcell x hx; simpa using this
  · have := List.all_eq_true.mp hloc x hx; exact beq_iff_eq.mp this
/-- a frame's leaving, when what flies is new -/
theorem frs_less {k : Nat} {s₀ s' : Shared} {A₀ : Around} {env : Env} {l : List Env} (F : Fs D s₀ L m news s) (hl : A₀.frames = some l) (hf : env.frame = some L) (hk1 : 1 < k) (hL : k ≤ L) (x : Ext (D ++ frs (A₀.deeper env)) s₀ s') : Ext (D ++ frs A₀) s₀ s' := by
  rw [frs_deeper hl (L := L) hf] at x
  refine x.less (fun b hb => ?_) (fun h1 => ?_)
  · rcases List.mem_append.mp hb with h | h
    · exact .inl (List.mem_append_left _ h)
    · rcases List.mem_cons.mp h with rfl | h
      · exact .inr F.newL
      · exact .inl (List.mem_append_right _ h)
  · rcases List.mem_append.mp h1 with h | h
    · exact List.mem_append_left _ h
    · rcases List.mem_cons.mp h with h | h
      · exact absurd (Nat.lt_of_lt_of_le hk1 hL) (by rw [← h]; exact Nat.lt_irrefl _)
      · exact List.mem_append_right _ h
theorem throwNew {k : Nat} {env : Env} {h' : Heap} {e : Addr} {A₀ : Around} {s₀ : Shared} {R : Result → Shared → Prop} (F : Fs D s₀ L m news s) (hal : ∀ b ∈ D, (∃ o, s.heap.get? b = some o) ∨ Gone s₀ b) (U : Up k A₀ s₀.heap) (hk1 : 1 < k) (hL : k ≤ L) (hf : env.frame = some L) (hkf : env.scope.kind = .function)
    (hm : Heap.MadeExc s.heap h' e "StopIteration" []) (hg : Gone s₀ e) (h : ∀ r s', Thr (D ++ frs A₀) s₀ r s' → (∀ b o, b ∉ frs (A₀.deeper env) → ¬ Gone s₀ b → s.heap.get? b = some o → s'.heap.get? b = some o) → R r s') :
    wpAny (model prog w) (A₀.deeper env) (leaving env (.ref e)) (fun _ s'' => R (.error (.ref e)) s'') (fun e' s'' => R (.error e') s'') { s with heap := h' } := by
  obtain ⟨l, hl, _⟩ := id U
  have hk' : env.scope.kind ≠ .module := by rw [hkf]; decide
  exact leaveNew (k := k) F.ext hal (U.deeper F hf hk' hL) (frames_deeper hl) (L := L) hf hm hg fun s' T x hT ht kp => h _ _ ⟨e, T, rfl, frs_less F hl hf hk1 hL x, hg, hT, ht⟩ kp
/-- a frame's leaving, when it has flown -/
theorem throwOn {k : Nat} {env : Env} {e T : Addr} {A₀ : Around} {s₀ : Shared} {R : Result → Shared → Prop} (F : Fs D s₀ L m news s) (hal : ∀ b ∈ D, (∃ o, s.heap.get? b = some o) ∨ Gone s₀ b) (U : Up k A₀ s₀.heap) (hk1 : 1 < k) (hL : k ≤ L) (hf : env.frame = some L) (hkf : env.scope.kind = .function)
    (ht : Trd s.heap e T (.type "StopIteration")) (hg : Gone s₀ e) (hT : Gone s₀ T) (h : ∀ r s', Thr (D ++ frs A₀) s₀ r s' → (∀ b o, b ∉ frs (A₀.deeper env) → ¬ Gone s₀ b → s.heap.get? b = some o → s'.heap.get? b = some o) → R r s') :
    wpAny (model prog w) (A₀.deeper env) (leaving env (.ref e)) (fun _ s'' => R (.error (.ref e)) s'') (fun e' s'' => R (.error e') s'') s := by
  obtain ⟨l, hl, _⟩ := id U
  have hk' : env.scope.kind ≠ .module := by rw [hkf]; decide
  exact leaveOn (k := k) F.ext hal (U.deeper F hf hk' hL) (frames_deeper hl) (L := L) hf ht hg hT fun s' T x hT ht kp => h _ _ ⟨e, T, rfl, frs_less F hl hf hk1 hL x, hg, hT, ht⟩ kp
end

theorem boot_stop : bootBuiltins "StopIteration" = some (.type "StopIteration") := by decide +kernel
section
variable {prog : Program} {w : World} {A A₀ : Around} {E : Value → Shared → Prop} {D D' : List Addr} {g s s' : Shared} {L : Addr} {m : Str → Option Value} {news : List (Addr × Sh)} {env : Env} {k : Nat}
theorem Fs.moreD (F : Fs D g L m news s) (h : ∀ d ∈ D, d ∈ D') : Fs D' g L m news s :=
  ⟨F.ext.mono h, F.loc, F.newL, F.led, fun p hp => (F.own p hp).imp (fun q => ⟨h _ q.1, q.2⟩) id, F.nd⟩
theorem Fs.put (F : Fs D g L m news s) {a : Addr} {x : Sh} (hx : x.at s.heap a) (ho : Own D g a) (hL : a ≠ L) (hn : ∀ p ∈ news, p.1 ≠ a) : Fs D g L m ((a, x) :: news) s := by
  refine ⟨F.ext, F.loc, F.newL, fun p hp => ?_, fun p hp => ?_, ?_⟩
  · rcases List.mem_cons.mp hp with rfl | hp
    · exact hx
    · exact F.led p hp
  · rcases List.mem_cons.mp hp with rfl | hp
    · exact ho
    · exact F.own p hp
  · have h1 := F.nd
    rw [List.nodup_cons] at h1 ⊢
    refine ⟨fun q => ?_, ?_⟩
    · rcases List.mem_cons.mp q with q | q
      · exact hL q.symm
      · exact h1.1 q
    · show (a :: news.map (·.1)).Nodup
      rw [List.nodup_cons]
      refine ⟨fun q => ?_, h1.2⟩
      obtain ⟨p, hp, e⟩ := List.mem_map.mp q
      exact hn p hp e
/-- a ledger's address is no frame -/
theorem Fs.noFrame (F : Fs D g L m news s) (U : Up k A₀ g.heap) {p : Addr × Sh} (hp : p ∈ news) : p.1 ∉ frs A₀ := fun q => by
  obtain ⟨_, m', o, es, ep, ho, hd, _⟩ := U.mem q
  rcases F.own p hp with ⟨_, h⟩ | h
  · exact h o ho es ep hd
  · exact Nat.lt_irrefl _ (Nat.lt_of_lt_of_le (Heap.lt_size ho) h)
/-- after a call that may touch the frames -/
theorem Fs.after (F : Fs D g L m news s) (U : Up k A₀ g.heap) (hk1 : 1 < k) (hL : k ≤ L) (hf : env.frame = some L) (x : Ext (D' ++ frs (A₀.deeper env)) s s') (hD : ∀ d ∈ D', d ∈ D ∨ g.heap.objs.size ≤ d) (h1 : 1 ∈ D' → 1 ∈ D) (hN : ∀ p ∈ news, p.1 ∉ D') :
    Fs (D ++ frs A₀) g L m news s' := by
  obtain ⟨l, hl, _⟩ := id U
  rw [frs_deeper hl hf] at x
  refine (F.moreD fun d hd => List.mem_append_left _ hd).call x (fun h => ?_) (fun d hd => ?_) fun p hp q => ?_
  · rcases List.mem_append.mp h with h | h
    · exact List.mem_append_left _ (h1 h)
    · rcases List.mem_cons.mp h with h | h
      · exact absurd (Nat.lt_of_lt_of_le hk1 hL) (by rw [← h]; exact Nat.lt_irrefl _)
      · exact List.mem_append_right _ h
  · rcases List.mem_append.mp hd with h | h
    · exact (hD d h).imp (fun h => List.mem_append_left _ h) id
    · rcases List.mem_cons.mp h with rfl | h
      · exact .inr F.newL
      · exact .inl (List.mem_append_right _ h)
  · rcases List.mem_append.mp q with h | h
    · exact hN p hp h
    · rcases List.mem_cons.mp h with h | h
      · exact F.ne hp h
      · exact F.noFrame U hp h
theorem Ext.upd1 {T : Addr} {f : Obj → Obj} (x : Ext D g s) (h : Gone g T) : Ext D g { s with heap := s.heap.update T f } := by
  have hn : ∀ b o, g.heap.get? b = some o → T ≠ b := fun b o e q => by
    unfold Gone at h; rw [q, e] at h; cases h
  exact ⟨fun b o hb e => (Heap.get?_update_other _ _ (hn b o e)).trans (x.keep b o hb e), x.os, x.gens, x.bare, fun b o e hd => let ⟨sl, e1⟩ := x.soft b o e hd; ⟨sl, (Heap.get?_update_other _ _ (hn b o e)).trans e1⟩⟩
theorem try_X {M : Model} {body orelse : Sem Flow} {h₀ : ExceptHandler} {hs : List ExceptHandler} {Q : Flow → Shared → Prop}
    (h : wpAny M A body (fun f s₁ => match f with | .next => wpAny M A orelse Q E s₁ | f => Q f s₁)
      (fun e s₁ => wpAny M A (leaving env e) (fun _ s₃ => wpAny M A (handleBy e env (h₀ :: hs)) Q E s₃) E s₁) s) :
    wpAny M A (tryStmt false body (h₀ :: hs) orelse [] env) Q E s := by
  unfold tryStmt
  simp only [List.isEmpty_nil, if_true, List.isEmpty_cons, Bool.false_and, Bool.false_eq_true, if_false]
  refine wpAny_bind (wpAny_attempt (wpAny_mono h (fun f s₁ h₁ => ?_) fun e s₁ h₁ => ?_))
  · cases f <;> first | exact h₁ | exact wpAny_pure h₁
  · have h2 : wpAny M A (leaving env e >>= fun _ => handleBy e env (h₀ :: hs)) Q E s₁ := wpAny_bind h₁
    unfold leaving at h2
    rw [LawfulMonad.bind_assoc] at h2
    exact h2
theorem Try_X {body orelse : List Stmt} {h₀ : ExceptHandler} {hs : List ExceptHandler} {pos : Pos} {Q : Flow → Shared → Prop}
    (h : wpAny (model prog w) A (execs body env) (fun f s₁ => match f with | .next => wpAny (model prog w) A (execs orelse env) Q E s₁ | f => Q f s₁)
      (fun e s₁ => wpAny (model prog w) A (leaving env e) (fun _ s₃ => wpAny (model prog w) A (handleBy e env (h₀ :: hs)) Q E s₃) E s₁) s) :
    wpAny (model prog w) A (exec (.Try body (h₀ :: hs) orelse [] pos) env) Q E s := by
  rw [arm_exec_Try]
  exact wpAny_bind (wpAny_standAt (try_X h))
/-- the end of an iterator, caught -/
theorem catchStop {h' : Heap} {e : Addr} {np pos : Pos} {b₀ : Stmt} {suite : List Stmt} {rest : List ExceptHandler} {Q : Flow → Shared → Prop} (F : Fs D g L m news s) (U : Up k A₀ g.heap) (hk1 : 1 < k) (hL : k ≤ L) (hf : env.frame = some L) (hkf : env.scope.kind = .function)
    (hm : Heap.MadeExc s.heap h' e "StopIteration" [])
    (hname : ∀ s' M' Q', Fs (D ++ frs A₀) g L m news s' → Q' (.type "StopIteration") s' → wpAny (model prog w) M' (eval (.Name "StopIteration" np) env) Q' (notedBy (model prog w) M' env (cameBackBy (model prog w) (A₀.deeper env) env E)) s')
    (hE : PassesOwnAt (model prog w) ((A₀.deeper env).mark (some (.ref e))) (A₀.deeper env) env E)
    (h : ∀ s', Fs (D ++ frs A₀) g L m news s' → wpAny (model prog w) ((A₀.deeper env).mark (some (.ref e))) (execs (b₀ :: suite) env) Q E s') :
    wpAny (model prog w) (A₀.deeper env) (leaving env (.ref e)) (fun _ s₃ => wpAny (model prog w) (A₀.deeper env) (handleBy (.ref e) env (.ExceptHandler (some (.Name "StopIteration" np)) none (b₀ :: suite) pos :: rest)) Q E s₃) E { s with heap := h' } := by
  obtain ⟨l, hl, _⟩ := id U
  have hk' : env.scope.kind ≠ .module := by rw [hkf]; decide
  refine leaveNew (k := k) (D := []) (Ext.refl [] s) (fun _ hb => nomatch hb) (U.deeper F hf hk' hL) (frames_deeper hl) (L := L) hf hm hm.new fun s₁ T x hT ht _ => ?_
  have F₁ := F.after U hk1 hL hf (D' := []) x (fun _ hb => nomatch hb) (fun hb => nomatch hb) (fun _ _ hb => nomatch hb)
  obtain ⟨oe, vs, oT, ts, t1, t2, t3, t4, t5, t6, t7, t8⟩ := ht
  refine wpAny_handleBy_builtin (X := "StopIteration") (T := "StopIteration") (b := true) (isSubtype_of_subB (by decide +kernel)) (isSubtype_of_subB (by decide +kernel)) (isSubtype_of_subB (by decide +kernel)) (hname _ _ _ F₁ ⟨rfl, ⟨oe, t1, t2⟩, ?_⟩)
  rw [if_pos rfl]
  refine wpAny_setFlight_none t1 t3 t4 t6 t7 (Array.getElem?_eq_some_iff.mp t8).1 ?_
  refine wpAny_passesOwnAt hE (h _ ?_)
  exact F.after U hk1 hL hf (D' := []) (x.upd1 hT) (fun _ hb => nomatch hb) (fun hb => nomatch hb) (fun _ _ hb => nomatch hb)
end

/-- an empty namespace of an object -/
def DicE (h : Heap) (dx : Addr) : Prop := ∃ o ep, h.get? dx = some o ∧ o.data = .dict #[] ep
theorem DicE.soft {D : List Addr} {s s' : Shared} {dx : Addr} (h : DicE s.heap dx) (x : Ext D s s') : DicE s'.heap dx := by
  obtain ⟨o, ep, e, d⟩ := h
  obtain ⟨sl, e'⟩ := x.soft dx o e ⟨_, ep, d⟩
  exact ⟨_, ep, e', d⟩
structure SlotOk (K : Frag) (C p : Addr) (name : Str) (i : Nat) : Prop where
  hg : plainGet K C name = true
  hc : isClsIn K C = true
  ha : findIn K (.ref C) name = some (some (.ref p))
  hn : specialIn K (.ref p) "__get__" = some (some (.builtin "member_descriptor.__get__"))
  ht : takesIn K (.ref p) = some true
  hp : slotIn K p C = some i
  hs : findIn K (.ref C) "__setattr__" = some (some (.builtin "object.__setattr__"))
  hpl : plainOver K C = true
  htk : takerIn K C name = some (some (.ref p))
  hT : typeIn K (.ref p) = some (.type "member_descriptor")
  hz : i < 1000
/-- an object with slots -/
abbrev slO (C dx : Addr) (sl : Array (Option Value)) : Obj := { cls := .ref C, dict := some dx, data := .plain, slots := sl }
section
variable {prog : Program} {w : World} {A : Around} {E : Value → Shared → Prop} {D : List Addr} {g s : Shared} {L : Addr} {m : Str → Option Value} {news : List (Addr × Sh)} {x C p dx : Addr} {name : Str} {v : Value} {i k P : Nat} {K : Frag} {env : Env} {sl : Array (Option Value)}
theorem getG {expr : Bool} {Q : Value → Shared → Prop} (F : Fs D g L m news s) (W : Wo K g.heap) (S' : Small K P k) (hD : okD P k D) (so : SlotOk K C p name i) (hx : s.heap.get? x = some (slO C dx sl)) (hd : DicE g.heap dx)
    (hv : (sl[i]?).join = some v) (h : ∀ s', Fs D g L m news s' → Q v s') (hh : handedIn v = true := by rfl) : wpAny (model prog w) A (getAttr (.ref x) name expr) Q E s := by
  obtain ⟨od, _, hod, _⟩ := hd.soft F.ext
  exact getK F (W.ext S' hD F.ext).X hx rfl rfl rfl hod so.hg so.hc so.ha so.hn so.ht so.hp hv hh fun s' F' _ => h s' F'
theorem setG {Q : Unit → Shared → Prop} (pre post : List (Addr × Sh)) (F : Fs D g L m news s) (en : news = pre ++ (x, .raw (slO C dx sl)) :: post) (W : Wo K g.heap) (S' : Small K P k) (hD : okD P k D) (so : SlotOk K C p name i) (hd : DicE g.heap dx) {sl' : Array (Option Value)}
    (e : (sl ++ Array.replicate (i + 1 - sl.size) none).setIfInBounds i (some v) = sl')
    (h : ∀ s', Fs D g L m (pre ++ (x, .raw (slO C dx sl')) :: post) s' → Q () s') : wpAny (model prog w) A (setAttr (.ref x) name v) Q E s := by
  obtain ⟨od, _, hod, _⟩ := hd.soft F.ext
  subst en
  exact setK pre post F (W.ext S' hD F.ext).X rfl rfl rfl hod so.hs so.hpl so.htk so.hT so.hp so.hz (by rw [← e]) rfl fun s' F' _ => h s' F'
/-- a method found -/
theorem methG {f : Addr} {pl : Sem Bool} {Q : Value × List Value → Shared → Prop} (F : Fs D g L m news s) (W : Wo K g.heap) (S' : Small K P k) (hD : okD P k D) (hx : s.heap.get? x = some (slO C dx sl)) (hd : DicE g.heap dx)
    (hga : findIn K (.ref C) "__getattribute__" = some (some (.builtin "object.__getattribute__"))) (hk : findIn K (.ref C) "__getattr__" = some none)
    (hf : findIn K (.ref C) name = some (some (.ref f))) (ht : typeIn K (.ref f) = some (.type "function")) (h : Q (.ref f, [.ref x]) s) : wpAny (model prog w) A (getMethod (.ref x) name pl) Q E s := by
  obtain ⟨od, ep, hod, hdd⟩ := hd.soft F.ext
  refine method_fn (od := some od) (W.ext S' hD F.ext).X ⟨hx, rfl, rfl, hod⟩ hga hk hf ht ?_ h
  obtain ⟨c, d, dt, sl0⟩ := od
  obtain rfl : dt = .dict #[] ep := hdd
  rfl
/-- two names out of a tuple -/
theorem tup2 {x1 x2 : Str} {p1 p2 pos : Pos} {k1 : Nat} {T : Addr} {v1 v2 : Value} {Q : Unit → Shared → Prop} (hh : A.handled = none) (F : Fs D g L m news s) (hT : s.heap.get? T = some (seqObj "tuple" #[v1, v2] 0))
    (h : ∀ s', Fs D g L (fun y => if y = x2 then some v2 else if y = x1 then some v1 else m y) news s' → Q () s')
    (hL : env.locals = L := by rfl) (hk : env.scope.kind = .function := by rfl) (h1 : env.kindOf x1 = some .local := by rfl) (h2 : env.kindOf x2 = some .local := by rfl) :
    wpAny (model prog w) A (assign (.Tuple [.Name x1 p1, .Name x2 p2] k1 pos) env (.ref T)) Q E s := by
  refine wpAny_assign_Tuple hh ⟨_, hT, rfl, 0, rfl⟩ rfl rfl fun h₃ hx₃ => ?_
  have F₃ : Fs D g L m news { s with heap := h₃ } := F.step (Ext.heap fun b o _ e => hx₃ b o (Nat.ne_of_lt (Heap.lt_size e)) e)
  show wpAny _ A (do holding [v2] (assign (.Name x1 p1) env v1); do holding [] (assign (.Name x2 p2) env v2); pure ()) _ _ _
  refine wpAny_bind (wpAny_holding (wpAny_assign_Name (st F₃ (fun s₄ F₄ => ?_) hL hk h1)))
  exact wpAny_bind (wpAny_holding (wpAny_assign_Name (st F₄ (fun s₅ F₅ => wpAny_pure (h _ F₅)) hL hk h2)))
/-- two names, stored backwards -/
theorem unp2 {x1 x2 : Str} {T : Addr} {v1 v2 : Value} {Q : Flow → Shared → Prop} (hh : A.handled = none) (F : Fs D g L m news s) (hT : s.heap.get? T = some (seqObj "tuple" #[v1, v2] 0))
    (h : ∀ s', Fs D g L (fun y => if y = x1 then some v1 else if y = x2 then some v2 else m y) news s' → Q .next s')
    (hL : env.locals = L := by rfl) (hk : env.scope.kind = .function := by rfl) (h1 : env.kindOf x1 = some .local := by rfl) (h2 : env.kindOf x2 = some .local := by rfl) :
    wpAny (model prog w) A (unpackItems (.ref T) [x1, x2].length none) (fun items s₂ => wpAny (model prog w) A (assignInOrder ([x1, x2].reverse.map fun n => bindName env n) items.reverse) (fun _ => Q .next) E s₂) E s := by
  refine wpAny_unpackItems_tuple (items := #[v1, v2]) hh ⟨_, hT, rfl, 0, rfl⟩ fun h₃ hx₃ => ?_
  have F₃ : Fs D g L m news { s with heap := h₃ } := F.step (Ext.heap fun b o _ e => hx₃ b o (Nat.ne_of_lt (Heap.lt_size e)) e)
  show wpAny _ A (do holding [v1] (bindName env x2 v2); do holding [] (bindName env x1 v1); pure ()) _ _ _
  refine wpAny_bind (wpAny_holding (wpAny_bindName (st F₃ (fun s₄ F₄ => ?_) hL hk h2)))
  exact wpAny_bind (wpAny_holding (wpAny_bindName (st F₄ (fun s₅ F₅ => wpAny_pure (h _ F₅)) hL hk h1)))
end

def AllAt (h : Heap) : List (Addr × Sh) → Prop
  | [] => True
  | p :: r => p.2.at h p.1 ∧ AllAt h r
theorem AllAt.mem {h : Heap} (l : List (Addr × Sh)) (x : AllAt h l) (p : Addr × Sh) (hp : p ∈ l) : p.2.at h p.1 := by
  induction l with
  | nil => exact nomatch hp
  | cons a r ih =>
    rcases List.mem_cons.mp hp with e | hp
    · rw [e]; exact x.1
    · exact ih x.2 hp
section
variable {D D' : List Addr} {g s s' : Shared} {L : Addr} {m : Str → Option Value} {news news' : List (Addr × Sh)}
/-- after a call that changed what the ledger tells -/
theorem Fs.re (F : Fs D g L m news s) (news' : List (Addr × Sh)) (e : news'.map (·.1) = news.map (·.1)) (x : Ext D' s s') (h1 : 1 ∈ D' → 1 ∈ D) (hD : ∀ d ∈ D', (d ∈ D ∨ g.heap.objs.size ≤ d) ∨ d ∈ news.map (·.1)) (hat : AllAt s'.heap news') : Fs D g L m news' s' := by
  have hD2 : ∀ d ∈ D', d ∈ D ∨ g.heap.objs.size ≤ d := fun d hd => (hD d hd).elim id fun h => by
    obtain ⟨p, hp, rfl⟩ := List.mem_map.mp h
    exact (F.own p hp).imp (·.1) id
  have F0 := (F.drop (news' := []) (List.nil_sublist _)).call x h1 hD2 (fun _ h => nomatch h)
  refine ⟨F0.ext, F0.loc, F0.newL, AllAt.mem _ hat, fun p hp => ?_, by rw [e]; exact F.nd⟩
  have h3 : p.1 ∈ news.map (·.1) := by rw [← e]; exact List.mem_map_of_mem hp
  obtain ⟨q, hq, e2⟩ := List.mem_map.mp h3
  rw [← e2]
  exact F.own q hq
end
section
variable {prog : Program} {w : World} {A : Around} {E : Value → Shared → Prop} {D : List Addr} {g s : Shared} {L : Addr} {m : Str → Option Value} {news : List (Addr × Sh)} {x C p dx : Addr} {name : Str} {v : Value} {i k P : Nat} {K : Frag} {sl : Array (Option Value)}
/-- a slot's content, to be called -/
theorem methS {pl : Sem Bool} {Q : Value × List Value → Shared → Prop} (F : Fs D g L m news s) (W : Wo K g.heap) (S' : Small K P k) (hD : okD P k D) (so : SlotOk K C p name i) (hx : s.heap.get? x = some (slO C dx sl)) (hd : DicE g.heap dx)
    (hv : (sl[i]?).join = some v) (h : ∀ s', Fs D g L m news s' → Q (v, []) s') (hh : handedIn v = true := by rfl) : wpAny (model prog w) A (getMethod (.ref x) name pl) Q E s := by
  obtain ⟨od, _, hod, _⟩ := hd.soft F.ext
  have X := (W.ext S' hD F.ext).X
  refine method_usual (od := some od) X ⟨hx, rfl, rfl, hod⟩ (plainGet_of so.hg).1 (plainGet_of so.hg).2 so.ha ?_ (getG F W S' hD so hx hd hv h hh)
  simp only [Option.all_some, so.hT, Option.any_some]
  decide
end
theorem one_of {k : Nat} {D' : List Addr} (h : ∀ d ∈ D', k ≤ d) (hk : 1 < k) {P : Prop} (q : (1 : Addr) ∈ D') : P := (Nat.lt_irrefl 1 (Nat.lt_of_lt_of_le hk (h 1 q))).elim
section
variable {D D' : List Addr} {g s s' : Shared} {L : Addr} {m : Str → Option Value} {news : List (Addr × Sh)} {A₀ : Around} {env : Env} {k : Nat}
theorem Fs.kept (F : Fs D g L m news s) (U : Up k A₀ g.heap) (hf : env.frame = some L) (x : Ext (D' ++ frs (A₀.deeper env)) s s') {p : Addr × Sh} (hp : p ∈ news) (hn : p.1 ∉ D') : p.2.at s'.heap p.1 := by
  obtain ⟨l, hl, _⟩ := id U
  refine Sh.at_keep (F.led p hp) fun o e => x.keep _ o (fun q => ?_) e
  rw [frs_deeper hl hf] at q
  rcases List.mem_append.mp q with h | h
  · exact hn h
  · rcases List.mem_cons.mp h with h | h
    · exact F.ne hp h
    · exact F.noFrame U hp h
theorem Fs.reU (F : Fs (D ++ frs A₀) g L m news s) (news' : List (Addr × Sh)) (e : news'.map (·.1) = news.map (·.1)) (U : Up k A₀ g.heap) (hk1 : 1 < k) (hL : k ≤ L) (hf : env.frame = some L) (x : Ext (D' ++ frs (A₀.deeper env)) s s') (hk' : ∀ d ∈ D', k ≤ d)
    (hD : ∀ d ∈ D', (d ∈ D ∨ g.heap.objs.size ≤ d) ∨ d ∈ news.map (·.1)) (hat : AllAt s'.heap news') : Fs (D ++ frs A₀) g L m news' s' := by
  obtain ⟨l, hl, _⟩ := id U
  rw [frs_deeper hl hf] at x
  refine F.re news' e x (one_of (k := k) (fun d hd => ?_) hk1) (fun d hd => ?_) hat
  · rcases List.mem_append.mp hd with h | h
    · exact hk' d h
    · rcases List.mem_cons.mp h with rfl | h
      · exact hL
      · exact (U.mem h).1
  · rcases List.mem_append.mp hd with h | h
    · exact (hD d h).imp (fun h => h.imp (fun h => List.mem_append_left _ h) id) id
    · rcases List.mem_cons.mp h with rfl | h
      · exact .inl (.inr F.newL)
      · exact .inl (.inl (List.mem_append_right _ h))
theorem gone_of (x : Ext D g s) (hal : ∀ b ∈ D, ∃ o, s.heap.get? b = some o) {e : Addr} (h : s.heap.get? e = none) : Gone g e := by
  show g.heap.get? e = none
  cases hq : g.heap.get? e with
  | none => rfl
  | some o =>
    by_cases hb : e ∈ D
    · obtain ⟨o, ho⟩ := hal e hb
      rw [h] at ho; cases ho
    · have := x.keep e o hb hq
      rw [h] at this; cases this
theorem Up.deep (U : Up k A₀ g.heap) (F : Fs D g L m news s) (hL : k ≤ L) (hf : env.frame = some L := by rfl) (hk : env.scope.kind = .function := by rfl) : Up k (A₀.deeper env) s.heap :=
  U.deeper F hf (by rw [hk]; decide) hL
theorem not_frs (U : Up k A₀ g.heap) (hf : env.frame = some L) (hL : g.heap.objs.size ≤ L) {b : Addr} {o : Obj} (e : g.heap.get? b = some o) (hd : ∀ es ep, o.data ≠ .dict es ep) : b ∉ frs (A₀.deeper env) := fun q => by
  obtain ⟨l, hl, _⟩ := id U
  rw [frs_deeper hl hf] at q
  rcases List.mem_cons.mp q with rfl | q
  · exact Nat.lt_irrefl _ (Nat.lt_of_lt_of_le (Heap.lt_size e) hL)
  · obtain ⟨_, m, o', es, ep, ho, hd', _⟩ := U.mem q
    rw [e] at ho; cases ho; exact hd es ep hd'
theorem useThr {prog : Program} {w : World} {A : Around} {E : Value → Shared → Prop} {Q : Value → Shared → Prop} {P : Shared → Prop} {f : Value} {vs : List Value} {kw : List (Str × Value)}
    (h : codeAny (model prog w) A (.call f ⟨vs, kw⟩) (fun r s' => Thr D s r s' ∧ P s') s) (hE : ∀ e T s', Ext D s s' → Gone s e → Gone s T → Trd s'.heap e T (.type "StopIteration") → P s' → E (.ref e) s') : wpAny (model prog w) A (call f vs kw) Q E s :=
  wpAny_call (codeAny_mono h fun r s' x => by obtain ⟨⟨e, T, rfl, a, b, c, d⟩, p⟩ := x; exact hE e T s' a b c d p)
theorem Thr.mono {r : Result} (h : Thr D g r s') (hm : ∀ d ∈ D, d ∈ D') : Thr D' g r s' := let ⟨e, T, a, b, c⟩ := h; ⟨e, T, a, b.mono hm, c⟩
theorem alive_frs (U : Up k A₀ g.heap) (x : Ext D g s) : ∀ b ∈ frs A₀, ∃ o, s.heap.get? b = some o := fun b hb => by
  obtain ⟨_, m, o, es, ep, ho, hd, _⟩ := U.mem hb
  obtain ⟨sl, e⟩ := x.soft b o ho ⟨es, ep, hd⟩
  exact ⟨_, e⟩
end

abbrev lsO (acc : Array Value) (c : Nat) : Obj := { cls := .type "list", dict := none, data := .seq acc c, slots := #[] }
/-- an iterator drawn into a list, turn by turn -/
def Feed (prog : Program) (w : World) (A : Around) (I S : Addr) (R : Result → Shared → Prop) (res : Value) : Nat → Array Value → Shared → Prop
  | 0, _, _ => False
  | k + 1, acc, s => wpAny (model prog w) A (pyNext (.ref I)) (fun r s' => match r with
      | none => R (.ok (.ret res)) s'
      | some v => (∃ c, s'.heap.get? S = some (lsO acc c)) ∧ acc.size ≤ 100000 ∧ ∀ h' c', h'.get? S = some (lsO (acc.push v) c') → Heap.SameBut S s'.heap h' → Feed prog w A I S R res k (acc.push v) { s' with heap := h' }) (fun e s' => R (.error e) s') s
section
variable {prog : Program} {w : World} {A : Around} {s : Shared} {E : Value → Shared → Prop} {R : Result → Shared → Prop} {I S : Addr} {res : Value}
theorem feed_loop : ∀ (k : Nat) (acc : Array Value) (s : Shared), Feed prog w A.in1 I S R res k acc s → codeAny (model prog w) A (.builtin "list.extend.loop" ⟨[.ref S, .ref I, res], []⟩) R s
  | 0, _, _, h => h.elim
  | k + 1, acc, s, h => by
    refine codeAny_builtin PySem.F.entry_extend_loop ?_
    rw [Around.under_plainId PySem.F.plain_extend_loop _]
    show wpAny _ A.in1 (pyNext (.ref I) >>= _) _ _ s
    refine wpAny_bind (wpAny_mono (h : wpAny _ _ _ _ _ _) (fun r s' hr => ?_) fun _ _ e => e)
    cases r with
    | none => exact wpAny_pure hr
    | some v =>
      obtain ⟨⟨c, hS⟩, hz, hf⟩ := hr
      show wpAny _ A.in1 (updateSeq S (·.push v) >>= _) _ _ _
      refine wpAny_bind ?_
      refine wpAny_updateSeq hS rfl (wpAny_pure ⟨plainId_quiet PySem.F.plain_extend_loop _, feed_loop k (acc.push v) _ (hf _ _ (Heap.get?_update_self _ hS rfl) (Heap.SameBut.update ..))⟩)
        (by rw [sizeLine_eq]; omega) (by show (acc.push v).size ≤ sizeLine + 1; rw [Array.size_push, sizeLine_eq]; omega)
theorem extend_feed {T : Value} {c₀ : Nat} (k : Nat) (hSI : S ≠ I) (hS : s.heap.get? S = some (lsO #[] c₀)) (hTy : Looks (model prog w) s.heap (typeOf (.ref I)) T) (hT1 : (T == .type "list") = false) (hT2 : (T == .type "tuple") = false)
    (hit : ∀ Q : Value → Shared → Prop, (∀ s', Ext [] s s' → Q (.ref I) s') → wpAny (model prog w) A.in1 (pyIter (.ref I)) Q (fun e s' => R (.error e) s') s)
    (hlen : Looks (model prog w) s.heap (specialOf (.ref I) (Str.ofString "__len__")) none) (hhint : Looks (model prog w) s.heap (specialOf (.ref I) (Str.ofString "__length_hint__")) none)
    (hF : ∀ s₁ h₂ c, Ext [] s s₁ → Heap.SameBut S s₁.heap h₂ → h₂.get? S = some (lsO #[] c) → Feed prog w A.in1 I S R res k #[] { s₁ with heap := h₂ }) :
    wpAny (model prog w) A.in1 (Builtin.List.listExtendWith (.ref S) (.ref I) res)
      (fun fin s' => match fin with | .done f => R (.ok f) s' | .again c' => c'.quiet = true ∧ codeAny (model prog w) A c' R s') (fun e s' => R (.error e) s') s := by
  unfold Builtin.List.listExtendWith
  refine wpAny_bind (hTy.here ?_)
  have h1 : Builtin.List.listSameRef (.ref S) (.ref I) = false := by simp [Builtin.List.listSameRef, hSI]
  simp only [h1, hT1, hT2, Bool.or_false, Bool.false_eq_true, if_false]
  refine wpAny_bind (hit _ fun s₁ X => ?_)
  have kp : ∀ b o, s.heap.get? b = some o → s₁.heap.get? b = some o := fun b o e => X.keep b o (by simp) e
  have hS1 := kp _ _ hS
  refine wpAny_bind (wpAny_holding ?_)
  unfold Builtin.List.listLengthHint
  refine wpAny_bind ((hlen.keeps kp).here ?_)
  show wpAny _ A.in1 (specialOf (Value.ref I) (Str.ofString "__length_hint__") >>= _) _ _ _
  refine wpAny_bind ((hhint.keeps kp).here ?_)
  refine wpAny_pure ?_
  show wpAny _ A.in1 (rule "list.extend.makes-room" >>= fun _ => Builtin.List.listTouch (.ref S) >>= fun _ =>
    again (.builtin "list.extend.loop" ⟨[.ref S, .ref I, res], []⟩)) _ _ _
  refine wpAny_bind (wpAny_rule (wpAny_bind ?_))
  show wpAny _ A.in1 (updateSeq S (·.push .none) >>= fun _ => updateSeq S (·.pop)) _ _ _
  refine wpAny_bind (wpAny_updateSeq hS1 rfl ?_)
  have hS₂ := Heap.get?_update_self (Obj.mapSeq (·.push Value.none)) hS1 rfl
  refine wpAny_updateSeq (hz := by seq_fits) hS₂ rfl ?_
  have hS₃ := Heap.get?_update_self (Obj.mapSeq (·.pop)) hS₂ rfl
  exact wpAny_pure ⟨plainId_quiet PySem.F.plain_extend_loop _, feed_loop k #[] _ (hF s₁ _ _ X ((Heap.SameBut.update ..).trans (Heap.SameBut.update ..)) hS₃)⟩
/-- list(it) -/
theorem list_feed {T : Value} {Q : Value → Shared → Prop} (k : Nat) (hI : I < s.heap.objs.size) (hTy : Looks (model prog w) s.heap (typeOf (.ref I)) T) (hT1 : (T == .type "list") = false) (hT2 : (T == .type "tuple") = false)
    (hit : ∀ (s₀ : Shared) (Q : Value → Shared → Prop) (E : Value → Shared → Prop), Ext [] s s₀ → (∀ s', Ext [] s₀ s' → Q (.ref I) s') → wpAny (model prog w) A.in1.in1 (pyIter (.ref I)) Q E s₀)
    (hlen : Looks (model prog w) s.heap (specialOf (.ref I) (Str.ofString "__len__")) none) (hhint : Looks (model prog w) s.heap (specialOf (.ref I) (Str.ofString "__length_hint__")) none)
    (hF : ∀ (S : Addr) (R : Result → Shared → Prop) s₁ c, s.heap.objs.size ≤ S → Ext [] s s₁ → s₁.heap.get? S = some (lsO #[] c) → (∀ s', Q (.ref S) s' → R (.ok (.ret .none)) s') → (∀ e s', E e s' → R (.error e) s') → Feed prog w A.in1.in1 I S R .none k #[] s₁) :
    wpAny (model prog w) A (call (.type "list") [.ref I]) Q E s := by
  refine callType_codes (Q₁ := fun obj s₁ => obj = .ref s.heap.objs.size ∧ s₁ = { s with heap := s.heap.push { cls := .type "list", data := .seq #[] } }) PySem.F.called_list (PySem.F.typeCall_list_1 _) PySem.F.entry_list_init
    (code_list_new _ ⟨rfl, rfl⟩) fun obj s₁ h₁ => ?_
  obtain ⟨rfl, rfl⟩ := h₁
  have X0 : Ext [] s { s with heap := s.heap.push { cls := .type "list", data := .seq #[] } } := Ext.heap (s := s) (tk := s.toks) fun b o _ e => Heap.get?_push_of_some _ e
  have hS : (s.heap.push { cls := .type "list", data := .seq #[] }).get? s.heap.objs.size = some { cls := .type "list", data := .seq #[] } := Heap.get?_push_size _ rfl
  refine ⟨⟨_, hS, rfl⟩, PySem.F.args_list_init_2 _ _, ?_⟩
  have hSI : s.heap.objs.size ≠ I := Nat.ne_of_gt hI
  have hge : s.heap.objs.size ≤ s.heap.objs.size := Nat.le_refl _
  have hgn : Gone s s.heap.objs.size := Heap.get?_none_of_le (Nat.le_refl _)
  generalize hSs : s.heap.objs.size = S at hS hSI hgn hge ⊢
  show wpAny _ A.in1.in1 (do let old ← Builtin.List.listItems (.ref S); Builtin.List.listUpdate (.ref S) (fun _ => #[]); letGo old.toList.reverse; Builtin.List.listExtendWith (.ref S) (.ref I) .none) _ _ _
  refine wpAny_bind ?_
  unfold Builtin.List.listItems
  refine wpAny_bind (wpAny_seqItems hS rfl (wpAny_pure ?_))
  show wpAny _ A.in1.in1 (updateSeq S (fun _ => #[]) >>= fun _ => letGo (#[] : Array Value).toList.reverse >>= fun _ => Builtin.List.listExtendWith (.ref S) (.ref I) .none) _ _ _
  refine wpAny_bind (wpAny_updateSeq hS rfl ?_)
  have hS₂ := Heap.get?_update_self (Obj.mapSeq (fun _ => (#[] : Array Value))) hS rfl
  refine wpAny_bind (wpAny_letGo ?_)
  have X1 := X0.upd1 (f := Obj.mapSeq (fun _ => (#[] : Array Value))) hgn
  have kp : ∀ b o, s.heap.get? b = some o → ((s.heap.push { cls := .type "list", data := .seq #[] }).update S (Obj.mapSeq (fun _ => (#[] : Array Value)))).get? b = some o := fun b o e => X1.keep b o (by simp) e
  refine extend_feed (A := A.in1) k hSI hS₂ (hTy.keeps kp) hT1 hT2 (fun Q' hq => hit _ Q' _ X1 hq) (hlen.keeps kp) (hhint.keeps kp) fun s₁ h₂ c X2 hs h2 => ?_
  exact hF S _ _ c (Nat.le_of_eq hSs) ((X1.trans X2).but (W := [S]) (tk := s₁.toks) (fun b o hb e => (hs.2 b (by simpa using hb)).trans e) (fun b hb => .inr (by rw [List.mem_singleton.mp hb]; exact Nat.le_of_eq hSs))) h2 (fun s' q => ⟨rfl, q⟩) (fun e s' q => q)
end
section
variable {prog : Program} {w : World} {A : Around} {E : Value → Shared → Prop} {D : List Addr} {g s : Shared} {L : Addr} {m : Str → Option Value} {news : List (Addr × Sh)} {x C f dx : Addr} {k P : Nat} {K : Frag} {sl : Array (Option Value)} {Q : Option Value → Shared → Prop}
theorem wipe_size (h : Heap) : ∀ l : List Addr, (wipe h l).objs.size = h.objs.size
  | [] => rfl
  | a :: r => by unfold wipe; rw [Heap.size_after_update, wipe_size h r]
/-- the frame as the library has it -/
def FrIn (K : Frag) (h : Heap) : Prop := ∃ h₀ L m, Fr h₀ L h m ∧ K.In h₀
theorem FrIn.ext {s' : Shared} (x : FrIn K s.heap) (e : Ext [] s s') : FrIn K s'.heap := by
  obtain ⟨h₀, L, m, F, X⟩ := x
  exact ⟨h₀, L, m, ⟨F.ns.keeps fun b o q => e.keep b o (by simp) q, fun b o q => e.keep b o (by simp) (F.keep b o q), F.above⟩, X⟩
theorem Fs.frIn (F : Fs D g L m news s) (W : Wo K g.heap) (S' : Small K P k) (hD : okD P k D) : FrIn K s.heap := by
  obtain ⟨m₀, n, _⟩ := F.loc
  refine ⟨wipe g.heap D, L, m₀, ⟨n, fun b o e => ?_, by rw [wipe_size]; exact F.newL⟩, fun a o e => ?_⟩
  · by_cases q : b ∈ D
    · rw [wipe_in _ q] at e; cases e
    · rw [wipe_not _ q] at e; exact F.ext.keep b o q e
  · have h := List.all_eq_true.mp S'.keys (a, o) (mem_of_lookupK e)
    simp only [Bool.and_eq_true, decide_eq_true_eq, bne_iff_ne] at h
    rw [wipe_not _ (notD hD h.1 h.2)]
    exact W.X a o e
theorem next_own (X : K.In s.heap) (hx : s.heap.get? x = some (slO C dx sl)) (hd : DicE s.heap dx) (hs : findIn K (.ref C) "__next__" = some (some (.ref f))) (hf : typeIn K (.ref f) = some (.type "function"))
    (h : wpAny (model prog w) A (call (.ref f) [.ref x]) (fun v s' => Q (some v) s') (fun e s' => wpAny (model prog w) A (isInstance e (.type "StopIteration")) (fun b s₂ => if b = true then Q none s₂ else E e s₂) E s') s) : wpAny (model prog w) A (pyNext (.ref x)) Q E s := by
  obtain ⟨od, ep, hod, _⟩ := hd
  unfold pyNext
  refine wpAny_bind (wpAny_attempt (special_fn (od := some od) (name := "__next__") (args := []) X ⟨hx, rfl, rfl, hod⟩ hs hf (wpAny_mono h (fun v s' hq => wpAny_pure hq) (fun e s' he => ?_))))
  refine wpAny_bind (wpAny_mono he (fun b s₂ hb => ?_) fun _ _ z => z)
  cases b with
  | true => exact wpAny_pure hb
  | false => exact wpAny_throw hb
theorem next_ret {Post : Value → Shared → Prop} (X : K.In s.heap) (hx : s.heap.get? x = some (slO C dx sl)) (hd : DicE s.heap dx) (hs : findIn K (.ref C) "__next__" = some (some (.ref f))) (hf : typeIn K (.ref f) = some (.type "function"))
    (h : codeAny (model prog w) A (.call (.ref f) ⟨[.ref x], []⟩) (Ret Post) s) (hQ : ∀ v s', Post v s' → Q (some v) s') : wpAny (model prog w) A (pyNext (.ref x)) Q E s :=
  next_own X hx hd hs hf (use h hQ)
theorem next_thr {Post : Shared → Prop} (X : K.In s.heap) (hx : s.heap.get? x = some (slO C dx sl)) (hd : DicE s.heap dx) (hs : findIn K (.ref C) "__next__" = some (some (.ref f))) (hf : typeIn K (.ref f) = some (.type "function"))
    (h : codeAny (model prog w) A (.call (.ref f) ⟨[.ref x], []⟩) (fun r s' => Thr D s r s' ∧ Post s') s) (hQ : ∀ s', Ext D s s' → Post s' → Q none s') : wpAny (model prog w) A (pyNext (.ref x)) Q E s := by
  refine next_own X hx hd hs hf (useThr h fun e T s' X' he hT ht hp => ?_)
  obtain ⟨oe, vs, oT, ts, t1, t2, _⟩ := ht
  refine wpAny_isInstance (T := "StopIteration") (b := true) ⟨oe, t1, t2⟩ isSubtype_stop ?_
  rw [if_pos rfl]
  exact hQ s' X' hp
theorem iter_own {fi : Addr} {Q : Value → Shared → Prop} {gv : Value} (hF : FrIn K s.heap) (hx : s.heap.get? x = some (slO C dx sl)) (hd : DicE s.heap dx) (hs : findIn K (.ref C) "__iter__" = some (some (.ref fi))) (hf : isFn K (.ref fi) = true) (hs' : findIn K (.ref C) "__next__" = some (some gv))
    (h : codeAny (model prog w) A (.call (.ref fi) ⟨[.ref x], []⟩) (Ret fun v s' => v = .ref x ∧ Ext [] s s') s) (hQ : ∀ s', Ext [] s s' → Q (.ref x) s') : wpAny (model prog w) A (pyIter (.ref x)) Q E s := by
  obtain ⟨h₀, L, m, F, X⟩ := id hF
  obtain ⟨od, ep, hod, hdd⟩ := id hd
  refine owit_iter (od := some od) F X ⟨hx, rfl, rfl, hod⟩ hs hf (use h fun v s' hv => ?_)
  obtain ⟨rfl, X'⟩ := hv
  obtain ⟨h₀, L, m, F, X⟩ := hF.ext X'
  exact owit_it (od := some od) F X ⟨X'.keep _ _ (by simp) hx, rfl, rfl, X'.keep _ _ (by simp) hod⟩ hs' (hQ s' X')
end

section
variable {prog : Program} {w : World} {A : Around} {s : Shared}
/-- a def with cells, called -/
theorem callKC {K : Frag} {fd : FuncData} {f : Addr} {body : List Stmt} {vals : List Value} {binds : List (Str × Value)} {R : Result → Shared → Prop} {d u : Nat} (C : Cx A (d + 1) (u + 3)) (W : Wo K s.heap) (hk : K.lookup f = some ⟨.type "function", none, .func fd, #[]⟩)
    (hcd : codeIn K fd.code fd.qualname = true) (hbody : fd.body = .stmts body) (hbind : bindArgs fd ⟨vals, []⟩ = pure binds) (hclo : fd.closure = []) (hloc : (binds.all fun x => fd.scope.names.lookup x.1 == some .local) = true) (hlk : ∀ n, ∀ p ∈ cellsFrom n fd.scope.names [], (cellsFrom n fd.scope.names []).lookup p.1 = some p.2)
    (hco : fd.scope.isCoroutine = false) (hgen : fd.scope.isGenerator = false) (hkf : fd.scope.kind = .function)
    (h : ∀ s₁, Cx (A.deeper (callEnvC fd s.heap.objs.size f)) d u → Ext [] s s₁ →
      Fs [] s s.heap.objs.size (bindL (callEnvC fd s.heap.objs.size f).kindOf binds fun _ => none) ((cellsFrom (s.heap.objs.size + 1) fd.scope.names []).map fun p => (p.2, .cell (bindC (callEnvC fd s.heap.objs.size f).kindOf binds (fun _ => none) p.1))) s₁ →
      wpAny (model prog w) (A.deeper (callEnvC fd s.heap.objs.size f)) (execs body (callEnvC fd s.heap.objs.size f)) (fun fl s' => R (.ok (.ret (retOf fl))) s')
        (fun e s' => wpAny (model prog w) (A.deeper (callEnvC fd s.heap.objs.size f)) (leaving (callEnvC fd s.heap.objs.size f) e) (fun _ s'' => R (.error e) s'') (fun e' s'' => R (.error e') s'') s') s₁) :
    codeAny (model prog w) A (.call (.ref f) ⟨vals, []⟩) R s := by
  refine codeAny_call_cells (by have := C.dp; omega) (W.X f _ hk) rfl W.lim (codeRec_of W.X hcd) hbody hbind hclo (fun x hx => .inl ?_) (fun s₁ x => ?_) hco hgen hkf
  · have := List.all_eq_true.mp hloc x hx; exact beq_iff_eq.mp this
  · obtain ⟨h', tk, e⟩ := x.toInCall.same
    have X : Ext [] s s₁ := by
      rw [e]; exact Ext.heap fun b o _ q => by have := x.toInCall.keep b o q; rw [e] at this; exact this
    have hcells : ∀ p ∈ cellsFrom (s.heap.objs.size + 1) fd.scope.names [], s.heap.objs.size < p.2 := fun p hp => x.above p.1 p.2 hp
    refine wpAny_mono (h s₁ C.deeper X ⟨X, ⟨_, x.toInCall.ns, fun _ _ e => e⟩, x.toInCall.fresh, fun p hp => ?_, fun p hp => ?_, ?_⟩) (fun f s' y => by cases f <;> exact y) fun _ _ y => y
    · obtain ⟨q, hq, rfl⟩ := List.mem_map.mp hp
      exact x.cell q.1 q.2 (hlk _ q hq)
    · obtain ⟨q, hq, rfl⟩ := List.mem_map.mp hp
      exact .inr (Nat.le_of_lt (hcells q hq))
    · rw [List.nodup_cons]
      refine ⟨fun q => ?_, ?_⟩
      · rw [List.map_map] at q
        obtain ⟨q, hq, e⟩ := List.mem_map.mp q
        have := hcells q hq
        exact Nat.lt_irrefl _ (by rw [← e] at this; exact this)
      · rw [List.map_map]
        exact (List.pairwise_map.mpr x.apart)
end
section
variable {M : Model} {A : Around} {E : Value → Shared → Prop} {D : List Addr} {g s : Shared} {L c : Addr} {m : Str → Option Value} {news : List (Addr × Sh)} {env : Env} {x : Str} {pos : Pos} {v : Value}
theorem ldC {Q : Value → Shared → Prop} (F : Fs D g L m news s) (hm : (c, .cell (some v)) ∈ news) (hc : env.cells.lookup x = some c) (h : Q v s) (hk : env.scope.kind = .function := by rfl) (hl : env.kindOf x = some .cell := by rfl)
    (hd : (x == ("__debug__" : Str)) = false := by rfl) : wpAny M A (eval (.Name x pos) env) Q E s :=
  wpAny_Name (wpAny_loadName_cell hk hl hc (F.get hm) h) hd
theorem ldF {Q : Value → Shared → Prop} (F : Fs D g L m news s) (hm : (c, .cell (some v)) ∈ news) (hc : env.cells.lookup x = some c) (h : Q v s) (hk : env.scope.kind = .function := by rfl) (hl : env.kindOf x = some .free := by rfl)
    (hd : (x == ("__debug__" : Str)) = false := by rfl) (hn : (x == ("__classdict__" : Str)) = false := by rfl) : wpAny M A (eval (.Name x pos) env) Q E s :=
  wpAny_Name (wpAny_loadName_free hk hl hc (F.get hm) h hn) hd
theorem stC {Q : Unit → Shared → Prop} {v₀ : Option Value} (pre post : List (Addr × Sh)) (F : Fs D g L m news s) (e : news = pre ++ (c, .cell v₀) :: post) (hc : env.cells.lookup x = some c) (h : ∀ s', Fs D g L m (pre ++ (c, .cell (some v)) :: post) s' → Q () s')
    (hk : env.scope.kind = .function := by rfl) (hl : env.kindOf x = some .cell := by rfl) : wpAny M A (storeName env x v) Q E s :=
  wpAny_storeName_cell hk hl hc (F.get (x := .cell v₀) (by rw [e]; simp)) fun h' hc' hs' => h _ (F.upd e (x' := .cell (some v)) hc' hs' s.toks)
end

/-! the plain function -/
def cpL : List (List Nat) → List Nat
  | [] => []
  | a :: r => r.foldl lcp a
theorem foldl_lcp : ∀ (r : List (List Nat)) (a : List Nat), IsCp (a :: r) (r.foldl lcp a)
  | [], a => ⟨fun s hs => by rw [List.mem_singleton.mp hs]; exact List.prefix_refl a, fun q hq => hq a (.head _)⟩
  | b :: r, a => by
    have ih := foldl_lcp r (lcp a b)
    refine ⟨fun s hs => ?_, fun q hq => ih.2 q fun s hs => ?_⟩
    · have h0 : (b :: r).foldl lcp a <+: lcp a b := ih.1 _ (.head _)
      rcases List.mem_cons.mp hs with rfl | hs
      · exact h0.trans (lcp_l _ _)
      rcases List.mem_cons.mp hs with rfl | hs
      · exact h0.trans (lcp_r _ _)
      · exact ih.1 s (.tail _ hs)
    · rcases List.mem_cons.mp hs with rfl | hs
      · exact lcp_max (hq a (.head _)) (hq b (.tail _ (.head _)))
      · exact hq s (.tail _ (.tail _ hs))
theorem cpL_is : ∀ {ss : List (List Nat)}, ss ≠ [] → IsCp ss (cpL ss)
  | [], h => absurd rfl h
  | a :: r, _ => foldl_lcp r a
theorem IsCp.eq {ss : List (List Nat)} {p : List Nat} (h : IsCp ss p) (hne : ss ≠ []) : p = cpL ss := h.uniq (cpL_is hne)
/-- sorted -/
def ins (a : List Nat) : List (List Nat) → List (List Nat)
  | [] => [a]
  | b :: r => if b < a then b :: ins a r else a :: b :: r
def isort : List (List Nat) → List (List Nat)
  | [] => []
  | a :: r => ins a (isort r)
theorem ins_perm (a : List Nat) : ∀ l, (ins a l).Perm (a :: l)
  | [] => .refl _
  | b :: r => by
    unfold ins
    split
    · exact ((ins_perm a r).cons b).trans (.swap ..)
    · exact .refl _
theorem isort_perm : ∀ l, (isort l).Perm l
  | [] => .refl _
  | a :: r => (ins_perm a _).trans ((isort_perm r).cons a)
theorem ins_rising (a : List Nat) : ∀ {l}, Rising l → Rising (ins a l)
  | [], _ => List.pairwise_singleton _ _
  | b :: r, h => by
    obtain ⟨h1, h2⟩ := List.pairwise_cons.mp h
    unfold ins
    split
    · rename_i hlt
      refine List.pairwise_cons.mpr ⟨fun z hz => ?_, ins_rising a h2⟩
      rcases List.mem_cons.mp ((ins_perm a r).mem_iff.mp hz) with rfl | hz
      · exact fun q => ltI _ (ltT q hlt)
      · exact h1 z hz
    · rename_i hge
      refine List.pairwise_cons.mpr ⟨fun z hz => ?_, h⟩
      rcases List.mem_cons.mp hz with rfl | hz
      · exact hge
      · exact ltNT hge (h1 z hz)
theorem isort_rising : ∀ l, Rising (isort l)
  | [] => List.Pairwise.nil
  | a :: r => ins_rising a (isort_rising r)
theorem rising_uniq : ∀ {l t : List (List Nat)}, Rising l → Rising t → l.Perm t → l = t
  | [], t, _, _, h => (List.Perm.nil_eq h)
  | a :: r, [], _, _, h => absurd h.length_eq (by simp)
  | a :: r, b :: t, h1, h2, h => by
    obtain ⟨a1, a2⟩ := List.pairwise_cons.mp h1
    obtain ⟨b1, b2⟩ := List.pairwise_cons.mp h2
    have e : a = b := by
      rcases List.mem_cons.mp (h.mem_iff.mp (.head _)) with e | ha
      · exact e
      rcases List.mem_cons.mp (h.symm.mem_iff.mp (.head _)) with e | hb
      · exact e.symm
      exact ltA (b1 a ha) (a1 b hb)
    subst e
    rw [rising_uniq a2 b2 ((List.perm_cons a).mp h)]
theorem sort_eq {l t : List (List Nat)} (hp : t.Perm l) (hr : Rising t) : t = isort l := rising_uniq hr (isort_rising l) (hp.trans (isort_perm l).symm)

def escSet : List Nat := (Str.ofString "()[]{}?*+-|^$\\.&~# \t\n\r\x0b\x0c").cps.toList
def escC (c : Nat) : List Nat := if c ∈ escSet then [92, c] else [c]
def esc (x : List Nat) : List Nat := x.flatMap escC
def csSet : List Nat := (Str.ofString "[^\\-]").cps.toList
def csC (c : Nat) : List Nat := if c ∈ csSet then [92, c] else [c]
def csOf (x : List Nat) : List Nat := [91] ++ x.flatMap csC ++ [93]
abbrev nc : List Nat := [40, 63, 58]
def clo (op : List Nat) : List Nat := if op = [] then [] else [41]
abbrev ones (ws : List (List Nat)) : List (List Nat) := ws.filter fun w => decide (w.length = 1)
abbrev rests (ws : List (List Nat)) : List (List Nat) := ws.filter fun w => !decide (w.length = 1)
def cut (k : Nat) (ws : List (List Nat)) : List (List Nat) := ws.map fun s => s.drop k
def cutE (k : Nat) (ws : List (List Nat)) : List (List Nat) := ws.map fun s => s.take (s.length - k)
def sameHd (w : List Nat) (s : List Nat) : Bool := s.head? == w.head?
def rx : Nat → List (List Nat) → List Nat → List Nat
  | 0, _, _ => []
  | _ + 1, [], _ => []
  | _ + 1, [w], op => op ++ esc w ++ clo op
  | n + 1, w :: w' :: r, op =>
    if w = [] then op ++ rx n (w' :: r) nc ++ [63] ++ clo op
    else if w.length = 1 ∧ 1 < (ones (w :: w' :: r)).length then
      if rests (w :: w' :: r) = [] then op ++ csOf (ones (w :: w' :: r)).flatten ++ clo op
      else op ++ rx n (rests (w :: w' :: r)) [] ++ [124] ++ csOf (ones (w :: w' :: r)).flatten ++ clo op
    else if cpL (w :: w' :: r) ≠ [] then op ++ esc (cpL (w :: w' :: r)) ++ rx n (cut (cpL (w :: w' :: r)).length (w :: w' :: r)) nc ++ clo op
    else if cpL ((w :: w' :: r).map List.reverse) ≠ [] then
      op ++ rx n (isort (cutE (cpL ((w :: w' :: r).map List.reverse)).length (w :: w' :: r))) nc ++ esc (cpL ((w :: w' :: r).map List.reverse)).reverse ++ clo op
    else op ++ joined [124] [rx n ((w :: w' :: r).takeWhile (sameHd w)) [], rx n ((w :: w' :: r).dropWhile (sameHd w)) []] ++ clo op
/-- what the words must be -/
structure Good (ws : List (List Nat)) : Prop where
  up : Rising ws
  nd : ws.Nodup
  sz : ∀ w ∈ ws, w.length ≤ 200
  len : ws.length ≤ 30
def meas (ws : List (List Nat)) : Nat := (ws.map fun w => w.length + 1).sum
theorem meas_cons (w : List Nat) (ws : List (List Nat)) : meas (w :: ws) = w.length + 1 + meas ws := rfl
theorem meas_perm {a b : List (List Nat)} (h : a.Perm b) : meas a = meas b := by
  induction h with
  | nil => rfl
  | cons x _ ih => rw [meas_cons, meas_cons, ih]
  | swap x y l => simp only [meas_cons]; omega
  | trans _ _ h1 h2 => exact h1.trans h2
theorem meas_len : ∀ ws : List (List Nat), ws.length ≤ meas ws
  | [] => Nat.le_refl _
  | w :: r => by have := meas_len r; rw [meas_cons, List.length_cons]; omega
theorem meas_app : ∀ a b : List (List Nat), meas (a ++ b) = meas a + meas b
  | [], b => by simp [meas]
  | w :: r, b => by rw [List.cons_append, meas_cons, meas_cons, meas_app r b]; omega
theorem meas_split (p : List Nat → Bool) : ∀ ws, meas (ws.filter p) + meas (ws.filter fun w => !p w) = meas ws
  | [] => rfl
  | w :: r => by
    have ih := meas_split p r
    cases h : p w
    · rw [List.filter_cons_of_neg (by simp [h]), List.filter_cons_of_pos (by simp [h]), meas_cons, meas_cons]; omega
    · rw [List.filter_cons_of_pos h, List.filter_cons_of_neg (by simp [h]), meas_cons, meas_cons]; omega
theorem Good.sub {a b : List (List Nat)} (h : Good b) (s : a.Sublist b) : Good a :=
  ⟨h.up.sublist s, h.nd.sublist s, fun w hw => h.sz w (s.subset hw), Nat.le_trans s.length_le h.len⟩
theorem app_lt (p a b : List Nat) : (p ++ a < p ++ b) ↔ a < b := by
  induction p with
  | nil => rfl
  | cons x p ih => rw [List.cons_append, List.cons_append, List.cons_lt_cons_iff]; simp [ih]
theorem Good.cut {ws : List (List Nat)} {p : List Nat} (h : Good ws) (hp : ∀ w ∈ ws, p <+: w) : Good (cut p.length ws) := by
  have e : ∀ w ∈ ws, w = p ++ w.drop p.length := fun w hw => by
    obtain ⟨t, rfl⟩ := hp w hw
    simp
  refine ⟨?_, ?_, ?_, by simpa [Mine.cut] using h.len⟩
  · refine List.pairwise_map.mpr (h.up.imp_of_mem fun {a b} ha hb hab q => hab ?_)
    rw [e a ha, e b hb]
    exact (app_lt p _ _).mpr q
  · refine List.pairwise_map.mpr (h.nd.imp_of_mem fun {a b} ha hb hab q => hab ?_)
    rw [e a ha, e b hb, q]
  · intro w hw
    obtain ⟨v, hv, rfl⟩ := List.mem_map.mp hw
    have := h.sz v hv
    rw [List.length_drop]; omega
theorem meas_cut {k : Nat} : ∀ {ws : List (List Nat)}, (∀ w ∈ ws, k ≤ w.length) → meas (cut k ws) + k * ws.length = meas ws
  | [], _ => rfl
  | w :: r, h => by
    have ih := meas_cut (k := k) (ws := r) fun v hv => h v (.tail _ hv)
    have h1 := h w (.head _)
    show meas (w.drop k :: cut k r) + _ = _
    rw [meas_cons, meas_cons, List.length_drop, List.length_cons, Nat.mul_add]; omega

theorem Good.perm {a b : List (List Nat)} (h : Good a) (hp : b.Perm a) (hr : Rising b) : Good b :=
  ⟨hr, hp.nodup_iff.mpr h.nd, fun w hw => h.sz w (hp.mem_iff.mp hw), hp.length_eq ▸ h.len⟩
theorem cutE_mem {ws : List (List Nat)} {q w : List Nat} (hq : ∀ v ∈ ws.map List.reverse, q <+: v) (hw : w ∈ ws) : w = w.take (w.length - q.length) ++ q.reverse ∧ q.length ≤ w.length := by
  have h := hq w.reverse (List.mem_map_of_mem hw)
  obtain ⟨t, ht⟩ := h
  have e : w = t.reverse ++ q.reverse := by
    have := congrArg List.reverse ht
    rw [List.reverse_append, List.reverse_reverse] at this
    exact this.symm
  rw [e]
  have h1 : (t.reverse ++ q.reverse).length - q.length = t.reverse.length := by simp
  rw [h1, List.take_left']
  · exact ⟨rfl, by simp⟩
  · rfl
theorem Good.cutE {ws : List (List Nat)} {q : List Nat} (h : Good ws) (hq : ∀ v ∈ ws.map List.reverse, q <+: v) : Good (isort (cutE q.length ws)) := by
  refine ⟨isort_rising _, (isort_perm _).nodup_iff.mpr ?_, ?_, ?_⟩
  · refine List.pairwise_map.mpr (h.nd.imp_of_mem fun {a b} ha hb hab e => hab ?_)
    rw [(cutE_mem hq ha).1, (cutE_mem hq hb).1, e]
  · intro w hw
    obtain ⟨v, hv, rfl⟩ := List.mem_map.mp ((isort_perm _).mem_iff.mp hw)
    have := h.sz v hv
    rw [List.length_take]; omega
  · rw [(isort_perm _).length_eq]; simpa [Mine.cutE] using h.len
theorem meas_cutE {q : List Nat} : ∀ {ws : List (List Nat)}, (∀ w ∈ ws, q.length ≤ w.length) → meas (cutE q.length ws) + q.length * ws.length = meas ws
  | [], _ => rfl
  | w :: r, h => by
    have ih := meas_cutE (q := q) (ws := r) fun v hv => h v (.tail _ hv)
    have h1 := h w (.head _)
    show meas (w.take (w.length - q.length) :: cutE q.length r) + _ = _
    rw [meas_cons, meas_cons, List.length_take, List.length_cons, Nat.mul_add]; omega
/-- the first sign's words stand together -/
theorem sameHd_split {w : List Nat} {c : Nat} {r : List (List Nat)} (hw : w.head? = some c) (hr : Rising (w :: r)) :
    ∀ s ∈ (w :: r).dropWhile (sameHd w), sameHd w s = false := by
  have key : ∀ l : List (List Nat), (∀ s ∈ l, ¬ s < w) → Rising l → ∀ s ∈ l.dropWhile (sameHd w), sameHd w s = false := by
    intro l
    induction l with
    | nil => intro _ _ s hs; exact nomatch hs
    | cons a l ih =>
      intro h1 h2 s hs
      rw [List.dropWhile_cons] at hs
      split at hs
      · exact ih (fun s hs => h1 s (.tail _ hs)) (List.pairwise_cons.mp h2).2 s hs
      · rename_i ha
        rcases List.mem_cons.mp hs with rfl | hs
        · simpa using ha
        · -- s is not below a, a is not below w, heads differ
          have hsa := (List.pairwise_cons.mp h2).1 s hs
          have haw := h1 a (.head _)
          cases h3 : sameHd w s with
          | false => rfl
          | true =>
            exfalso
            obtain ⟨x, w', rfl⟩ : ∃ x w', w = x :: w' := by cases w with | nil => simp at hw | cons x w' => exact ⟨x, w', rfl⟩
            cases s with
            | nil => exact absurd (by simp [sameHd] at h3) id
            | cons y s =>
              have hy : y = x := by simpa [sameHd] using h3
              subst hy
              cases a with
              | nil => exact haw (by simp)
              | cons z a =>
                have hz : z ≠ y := fun e => ha (by simp [sameHd, e])
                rw [List.cons_lt_cons_iff] at hsa haw
                have : ¬ y < z := fun q => hsa (.inl q)
                have : ¬ z < y := fun q => haw (.inl q)
                omega
  exact key _ (fun s hs => by
    rcases List.mem_cons.mp hs with rfl | hs
    · exact ltI _
    · exact (List.pairwise_cons.mp hr).1 s hs) hr
theorem esc_len (x : List Nat) : (esc x).length ≤ 2 * x.length := by
  induction x with
  | nil => simp [esc]
  | cons c r ih =>
    have h : (escC c).length ≤ 2 := by unfold escC; split <;> simp
    show (escC c ++ esc r).length ≤ _
    rw [List.length_append, List.length_cons]; omega
theorem csF_len (x : List Nat) : (x.flatMap csC).length ≤ 2 * x.length := by
  induction x with
  | nil => simp
  | cons c r ih =>
    have h : (csC c).length ≤ 2 := by unfold csC; split <;> simp
    rw [List.flatMap_cons, List.length_append, List.length_cons]; omega

theorem ones_flat : ∀ ws : List (List Nat), (ones ws).flatten.length = (ones ws).length
  | [] => rfl
  | w :: r => by
    have ih := ones_flat r
    unfold ones at ih ⊢
    by_cases h : w.length = 1
    · rw [List.filter_cons_of_pos (by simpa using h), List.flatten_cons, List.length_append, List.length_cons, ih, h]; omega
    · rw [List.filter_cons_of_neg (by simpa using h)]; exact ih
theorem ones_meas : ∀ ws : List (List Nat), meas (ones ws) = 2 * (ones ws).length
  | [] => rfl
  | w :: r => by
    have ih := ones_meas r
    unfold ones at ih ⊢
    by_cases h : w.length = 1
    · rw [List.filter_cons_of_pos (by simpa using h), meas_cons, ih, h, List.length_cons]; omega
    · rw [List.filter_cons_of_neg (by simpa using h)]; exact ih
theorem meas_ones (ws : List (List Nat)) : meas (ones ws) + meas (rests ws) = meas ws := meas_split _ ws
theorem meas_pos {ws : List (List Nat)} (h : ws ≠ []) : 0 < meas ws := by
  have := meas_len ws
  have := List.length_pos_iff.mpr h
  omega
theorem rests_good {ws : List (List Nat)} (G : Good ws) : Good (rests ws) := G.sub List.filter_sublist
theorem cp_pre {ws : List (List Nat)} (h : ws ≠ []) : ∀ w ∈ ws, cpL ws <+: w := (cpL_is h).1
theorem meas_pre {ws : List (List Nat)} (h : ws ≠ []) : meas (cut (cpL ws).length ws) + (cpL ws).length * ws.length = meas ws := meas_cut fun w hw => (cp_pre h w hw).length_le
theorem suf_pre {ws : List (List Nat)} (h : ws ≠ []) : ∀ v ∈ ws.map List.reverse, cpL (ws.map List.reverse) <+: v := (cpL_is (by simpa using h)).1
theorem meas_suf {ws : List (List Nat)} (h : ws ≠ []) : meas (isort (cutE (cpL (ws.map List.reverse)).length ws)) + (cpL (ws.map List.reverse)).length * ws.length = meas ws := by
  rw [meas_perm (isort_perm _)]
  exact meas_cutE fun w hw => (cutE_mem (suf_pre h) hw).2
theorem meas_alt (p : List Nat → Bool) (ws : List (List Nat)) : meas (ws.takeWhile p) + meas (ws.dropWhile p) = meas ws := by
  rw [← meas_app, List.takeWhile_append_dropWhile]
theorem take_ne (w : List Nat) (r : List (List Nat)) : (w :: r).takeWhile (sameHd w) ≠ [] := by
  rw [List.takeWhile_cons, if_pos (by simp [sameHd])]; simp
theorem drop_ne {w : List Nat} {r : List (List Nat)} (hw : w ≠ []) (hc : cpL (w :: r) = []) : (w :: r).dropWhile (sameHd w) ≠ [] := fun q => by
  obtain ⟨c, w', rfl⟩ : ∃ c w', w = c :: w' := by cases w with | nil => exact absurd rfl hw | cons c w' => exact ⟨c, w', rfl⟩
  have h : ∀ s ∈ (c :: w') :: r, [c] <+: s := fun s hs => by
    rw [← List.takeWhile_append_dropWhile (p := sameHd (c :: w')) (l := (c :: w') :: r), q, List.append_nil] at hs
    have := List.all_eq_true.mp (List.all_takeWhile (p := sameHd (c :: w')) (l := (c :: w') :: r)) s hs
    cases s with
    | nil => simp [sameHd] at this
    | cons y s =>
      have hy : y = c := by simpa [sameHd] using this
      subst hy; exact ⟨s, rfl⟩
  have := (cpL_is (ss := (c :: w') :: r) (by simp)).2 [c] h
  rw [hc] at this
  simp at this
theorem clo_len (op : List Nat) : (clo op).length ≤ 1 := by unfold clo; split <;> simp
theorem meas_bound {ws : List (List Nat)} (G : Good ws) : meas ws ≤ 6030 := by
  have h1 : ∀ l : List (List Nat), (∀ w ∈ l, w.length ≤ 200) → meas l ≤ 201 * l.length := by
    intro l
    induction l with
    | nil => intro _; exact Nat.le_refl _
    | cons w r ih => intro h; have := ih fun v hv => h v (.tail _ hv); have := h w (.head _); rw [meas_cons, List.length_cons]; omega
  have := h1 ws G.sz
  have := G.len
  omega
theorem cs_len (x : List Nat) : (csOf x).length ≤ 2 * x.length + 2 := by
  have := csF_len x
  unfold csOf; simp only [List.length_append, List.length_cons, List.length_nil]; omega
theorem rx_len : ∀ (n : Nat) (ws : List (List Nat)) (op : List Nat), Good ws → (ws = [] → rx n ws op = []) ∧ (ws ≠ [] → (rx n ws op).length + 2 ≤ op.length + 10 * meas ws)
  | 0, ws, op, _ => ⟨fun _ => rfl, fun h => by have := meas_pos h; show 0 + 2 ≤ _; omega⟩
  | _ + 1, [], op, _ => ⟨fun _ => rfl, fun h => absurd rfl h⟩
  | n + 1, [w], op, _ => by
      refine And.intro (fun h => (by cases h)) (fun _ => ?_)
      have h1 := esc_len w
      have h2 := clo_len op
      show (op ++ esc w ++ clo op).length + 2 ≤ _
      rw [List.length_append, List.length_append, meas_cons]; omega
  | n + 1, w :: w' :: r, op, G => by
      refine And.intro (fun h => (by cases h)) (fun _ => ?_)
      have h2 := clo_len op
      have hne : w :: w' :: r ≠ [] := by simp
      have hlen2 : 2 ≤ (w :: w' :: r).length := by simp
      unfold rx
      split
      · rename_i hw
        subst hw
        have ih := (rx_len n (w' :: r) nc (G.sub (List.sublist_cons_self _ _))).2 (by simp)
        rw [show meas ([] :: w' :: r) = 0 + 1 + meas (w' :: r) from rfl]
        simp only [List.length_append, List.length_cons, List.length_nil] at ih ⊢
        omega
      rename_i hw
      split
      · rename_i h1
        have hm := meas_ones (w :: w' :: r)
        have hk := ones_meas (w :: w' :: r)
        have hc := cs_len (ones (w :: w' :: r)).flatten
        rw [ones_flat] at hc
        split
        · simp only [List.length_append] at hc ⊢
          omega
        · rename_i hr
          have ih := (rx_len n (rests (w :: w' :: r)) [] (rests_good G)).2 hr
          simp only [List.length_append, List.length_cons, List.length_nil] at ih hc ⊢
          omega
      split
      · rename_i hp
        have hm := meas_pre hne
        have hl := List.length_pos_iff.mpr hp
        have he := esc_len (cpL (w :: w' :: r))
        have hmul : (cpL (w :: w' :: r)).length * 2 ≤ (cpL (w :: w' :: r)).length * (w :: w' :: r).length := Nat.mul_le_mul_left _ hlen2
        have ih := (rx_len n (cut (cpL (w :: w' :: r)).length (w :: w' :: r)) nc (G.cut (cp_pre hne))).2 (by simp [cut])
        simp only [List.length_append] at ih ⊢
        simp only [List.length_cons (a := 40), List.length_cons, List.length_nil] at ih
        generalize (cpL (w :: w' :: r)).length * (w :: w' :: r).length = z at *
        generalize meas (w :: w' :: r) = mm at *
        omega
      split
      · rename_i hp
        have hm := meas_suf hne
        have hl := List.length_pos_iff.mpr hp
        have he := esc_len (cpL ((w :: w' :: r).map List.reverse)).reverse
        rw [List.length_reverse] at he
        have hmul : (cpL ((w :: w' :: r).map List.reverse)).length * 2 ≤ (cpL ((w :: w' :: r).map List.reverse)).length * (w :: w' :: r).length := Nat.mul_le_mul_left _ hlen2
        have hne2 : isort (cutE (cpL ((w :: w' :: r).map List.reverse)).length (w :: w' :: r)) ≠ [] := fun q => by
          have := (isort_perm (cutE (cpL ((w :: w' :: r).map List.reverse)).length (w :: w' :: r))).length_eq
          rw [q] at this; simp [cutE] at this
        have ih := (rx_len n _ nc (G.cutE (suf_pre hne))).2 hne2
        simp only [List.length_append]
        have hnc : nc.length = 3 := rfl
        rw [hnc] at ih
        generalize (cpL ((w :: w' :: r).map List.reverse)).length * (w :: w' :: r).length = z at *
        generalize meas (w :: w' :: r) = mm at *
        omega
      · rename_i hp hq
        have hp : cpL (w :: w' :: r) = [] := by simpa using hp
        have hm := meas_alt (sameHd w) (w :: w' :: r)
        have i1 := (rx_len n _ [] (G.sub (List.takeWhile_sublist (p := sameHd w) (l := w :: w' :: r)))).2 (take_ne _ _)
        have i2 := (rx_len n _ [] (G.sub (List.dropWhile_sublist (sameHd w) (l := w :: w' :: r)))).2 (drop_ne hw hp)
        simp only [joined, List.length_append, List.length_cons, List.length_nil] at i1 i2 ⊢
        omega
theorem rx_le {n : Nat} {ws : List (List Nat)} {op : List Nat} (G : Good ws) : (rx n ws op).length ≤ op.length + 60300 := by
  have h := rx_len n ws op G
  have hb := meas_bound G
  by_cases e : ws = []
  · rw [h.1 e]; simp
  · have := h.2 e; omega
/-! how deep the pattern nests: by the number of words, and whether all begin or end alike -/
def mu (ws : List (List Nat)) : Nat := 3 * ws.length + (if cpL ws = [] then 0 else 1) + (if cpL (ws.map List.reverse) = [] then 0 else 1)
theorem mu_lo (ws : List (List Nat)) : 3 * ws.length ≤ mu ws := by unfold mu; omega
theorem mu_hi (ws : List (List Nat)) : mu ws ≤ 3 * ws.length + 2 := by unfold mu; split <;> split <;> omega
theorem mu_pos {ws : List (List Nat)} (h : ws ≠ []) : 0 < mu ws := by have := mu_lo ws; have := List.length_pos_iff.mpr h; omega
theorem mu_short {n : Nat} {ws us : List (List Nat)} (h : mu ws ≤ n + 1) (hl : us.length + 1 ≤ ws.length) : mu us ≤ n := by have := mu_lo ws; have := mu_hi us; omega
theorem mu_tail {n : Nat} {w w' : List Nat} {r : List (List Nat)} (h : mu (w :: w' :: r) ≤ n + 1) : mu (w' :: r) ≤ n := mu_short h (by simp)
theorem filter_two (p : List Nat → Bool) : ∀ ws : List (List Nat), (ws.filter p).length + (ws.filter fun w => !p w).length = ws.length
  | [] => rfl
  | w :: r => by
    have ih := filter_two p r
    cases h : p w
    · rw [List.filter_cons_of_neg (by simp [h]), List.filter_cons_of_pos (by simp [h])]; simp; omega
    · rw [List.filter_cons_of_pos h, List.filter_cons_of_neg (by simp [h])]; simp; omega
theorem mu_rests {n : Nat} {ws : List (List Nat)} (h : mu ws ≤ n + 1) (h1 : 1 < (ones ws).length) : mu (rests ws) ≤ n := mu_short h (by
  have h3 : (ones ws).length + (rests ws).length = ws.length := filter_two _ ws
  omega)
theorem mu_two {n : Nat} {w w' : List Nat} {r : List (List Nat)} (h : mu (w :: w' :: r) ≤ n + 1) (hw : w ≠ []) (hp : cpL (w :: w' :: r) = []) :
    mu ((w :: w' :: r).takeWhile (sameHd w)) ≤ n ∧ mu ((w :: w' :: r).dropWhile (sameHd w)) ≤ n := by
  have hl : ((w :: w' :: r).takeWhile (sameHd w)).length + ((w :: w' :: r).dropWhile (sameHd w)).length = (w :: w' :: r).length := by
    rw [← List.length_append, List.takeWhile_append_dropWhile]
  have h1 := List.length_pos_iff.mpr (take_ne w (w' :: r))
  have h2 := List.length_pos_iff.mpr (drop_ne hw hp)
  exact ⟨mu_short h (by omega), mu_short h (by omega)⟩
theorem pre_nil {p q : List Nat} (h : p ++ q <+: p) : q = [] := by
  have := h.length_le
  rw [List.length_append] at this
  exact List.length_eq_zero_iff.mp (by omega)
theorem mu_cp {n : Nat} {ws : List (List Nat)} (h : mu ws ≤ n + 1) (h2 : ws ≠ []) (hp : cpL ws ≠ []) : mu (cut (cpL ws).length ws) ≤ n := by
  have hne : cut (cpL ws).length ws ≠ [] := by simpa [cut] using h2
  have c1 : cpL (cut (cpL ws).length ws) = [] := pre_nil ((cpL_is h2).2 _ fun s hs => by
    obtain ⟨t, ht⟩ := (cpL_is h2).1 s hs
    have h3 := (cpL_is hne).1 (s.drop (cpL ws).length) (List.mem_map_of_mem hs)
    rw [← ht, List.drop_left' rfl] at h3
    generalize cpL (cut (cpL ws).length ws) = z at h3
    rw [← ht]
    exact (List.prefix_append_right_inj _).mpr h3)
  have c2 : cpL (ws.map List.reverse) = [] → cpL ((cut (cpL ws).length ws).map List.reverse) = [] := fun e => by
    have h4 := (cpL_is (ss := ws.map List.reverse) (by simpa using h2)).2 (cpL ((cut (cpL ws).length ws).map List.reverse)) fun s hs => by
      obtain ⟨v, hv, rfl⟩ := List.mem_map.mp hs
      have h3 := (cpL_is (ss := (cut (cpL ws).length ws).map List.reverse) (by simpa using hne)).1 (v.drop (cpL ws).length).reverse (List.mem_map_of_mem (List.mem_map_of_mem hv))
      refine h3.trans ⟨(v.take (cpL ws).length).reverse, ?_⟩
      rw [← List.reverse_append, List.take_append_drop]
    rw [e] at h4
    exact List.prefix_nil.mp h4
  have hl : (cut (cpL ws).length ws).length = ws.length := by simp [cut]
  unfold mu at h ⊢
  rw [if_pos c1, hl]
  rw [if_neg hp] at h
  by_cases e : cpL (ws.map List.reverse) = []
  · rw [if_pos (c2 e)]; omega
  · rw [if_neg e] at h
    split <;> omega
theorem mu_sf {n : Nat} {ws : List (List Nat)} (h : mu ws ≤ n + 1) (h2 : ws ≠ []) (hc : cpL ws = []) (hp : cpL (ws.map List.reverse) ≠ []) : mu (isort (cutE (cpL (ws.map List.reverse)).length ws)) ≤ n := by
  have hr : ws.map List.reverse ≠ [] := by simpa using h2
  have hl : (isort (cutE (cpL (ws.map List.reverse)).length ws)).length = ws.length := by rw [(isort_perm _).length_eq]; simp [cutE]
  have hne : isort (cutE (cpL (ws.map List.reverse)).length ws) ≠ [] := fun q => by rw [q] at hl; exact h2 (List.length_eq_zero_iff.mp hl.symm)
  have hmem : ∀ v ∈ ws, v.take (v.length - (cpL (ws.map List.reverse)).length) ∈ isort (cutE (cpL (ws.map List.reverse)).length ws) := fun v hv => (isort_perm _).mem_iff.mpr (List.mem_map_of_mem hv)
  have c1 : cpL (isort (cutE (cpL (ws.map List.reverse)).length ws)) = [] := by
    have h4 := (cpL_is h2).2 (cpL (isort (cutE (cpL (ws.map List.reverse)).length ws))) fun s hs => ((cpL_is hne).1 _ (hmem s hs)).trans (List.take_prefix _ _)
    rw [hc] at h4
    exact List.prefix_nil.mp h4
  have c2 : cpL ((isort (cutE (cpL (ws.map List.reverse)).length ws)).map List.reverse) = [] := pre_nil ((cpL_is hr).2 _ fun s hs => by
    obtain ⟨v, hv, rfl⟩ := List.mem_map.mp hs
    have h3 := (cpL_is (ss := (isort (cutE (cpL (ws.map List.reverse)).length ws)).map List.reverse) (by simpa using hne)).1 _ (List.mem_map_of_mem (hmem v hv))
    have e := (cutE_mem (suf_pre h2) hv).1
    generalize cpL ((isort (cutE (cpL (ws.map List.reverse)).length ws)).map List.reverse) = z at h3
    have e2 : v.reverse = cpL (ws.map List.reverse) ++ (v.take (v.length - (cpL (ws.map List.reverse)).length)).reverse := by
      conv => lhs; rw [e]
      rw [List.reverse_append, List.reverse_reverse]
    rw [e2]
    exact (List.prefix_append_right_inj _).mpr h3)
  unfold mu at h ⊢
  rw [if_pos c1, if_pos c2, hl]
  rw [if_neg hp] at h
  omega

section
variable {prog : Program} {w : World} {A : Around} {s : Shared} {E : Value → Shared → Prop} {I : Addr}
/-- what a source must be that is drawn whole -/
structure Src (prog : Program) (w : World) (A : Around) (I : Addr) (s : Shared) (T : Value) : Prop where
  lt : I < s.heap.objs.size
  ty : Looks (model prog w) s.heap (typeOf (.ref I)) T
  ty1 : (T == .type "list") = false
  ty2 : (T == .type "tuple") = false
  it : ∀ (s₀ : Shared) (Q : Value → Shared → Prop) (E : Value → Shared → Prop), Ext [] s s₀ → (∀ s', Ext [] s₀ s' → Q (.ref I) s') → wpAny (model prog w) A (pyIter (.ref I)) Q E s₀
  len : Looks (model prog w) s.heap (specialOf (.ref I) (Str.ofString "__len__")) none
  hint : Looks (model prog w) s.heap (specialOf (.ref I) (Str.ofString "__length_hint__")) none
theorem collect_feed {T : Value} {Q : List Value → Shared → Prop} (k : Nat) (X : Src prog w A.in1 I s T)
    (hF : ∀ (S : Addr) (R : Result → Shared → Prop) s₁ c, s.heap.objs.size ≤ S → Ext [] s s₁ → s₁.heap.get? S = some (lsO #[] c) → (∀ s' acc c', s'.heap.get? S = some (lsO acc c') → Q acc.toList s' → R (.ok (.ret (.ref S))) s') → (∀ e s', E e s' → R (.error e) s') → Feed prog w A.in1 I S R (.ref S) k #[] s₁) :
    wpAny (model prog w) A (collect (.ref I)) Q E s := by
  unfold collect
  refine wpAny_bind (wpAny_runValue (codeAny_builtin entry_proto_collect' ?_))
  rw [Around.under_plainId PySem.F.plain_proto_collect _]
  show wpAny _ A.in1 (newList [] >>= fun l => again (.builtin "list.__iadd__" ⟨[l, .ref I], []⟩)) _ _ s
  refine wpAny_bind (wpAny_newObj_type ?_)
  refine wpAny_pure ⟨plainId_quiet PySem.F.plain_list_iadd _, codeAny_builtin entry_list_iadd' ?_⟩
  rw [Around.under_plainId PySem.F.plain_list_iadd _]
  have hS₁ : (s.heap.push { cls := .type "list", data := .seq ([] : List Value).toArray }).get? s.heap.objs.size = some { cls := .type "list", data := .seq #[] } := Heap.get?_push_size _ rfl
  have X0 : Ext [] s { s with heap := s.heap.push { cls := .type "list", data := .seq ([] : List Value).toArray } } := Ext.heap (s := s) (tk := s.toks) fun b o _ e => Heap.get?_push_of_some _ e
  have kp : ∀ b o, s.heap.get? b = some o → (s.heap.push { cls := .type "list", data := .seq ([] : List Value).toArray }).get? b = some o := fun b o e => Heap.get?_push_of_some _ e
  show wpAny _ A.in1 (Builtin.List.listExtendWith (.ref s.heap.objs.size) (.ref I) (.ref s.heap.objs.size)) _ _ _
  have key := extend_feed (A := A) (S := s.heap.objs.size) (res := .ref s.heap.objs.size) (T := T) (s := { s with heap := s.heap.push { cls := .type "list", data := .seq ([] : List Value).toArray } })
    (R := fun (q : Result) (s' : Shared) => (∃ acc c', q = .ok (.ret (.ref s.heap.objs.size)) ∧ s'.heap.get? s.heap.objs.size = some (lsO acc c') ∧ Q acc.toList s') ∨ (∃ e, q = .error e ∧ E e s'))
    k (Nat.ne_of_gt X.lt) hS₁ (X.ty.keeps kp) X.ty1 X.ty2 (fun Q' hq => X.it _ Q' _ X0 hq) (X.len.keeps kp) (X.hint.keeps kp) (fun s₁ h₂ c X2 hs h2 =>
      hF s.heap.objs.size _ _ c (Nat.le_refl _) ((X0.trans X2).but (W := [s.heap.objs.size]) (tk := s₁.toks) (fun b o hb e => (hs.2 b (by simpa using hb)).trans e) (fun b hb => .inr (by rw [List.mem_singleton.mp hb]; exact Nat.le_refl _))) h2
        (fun s' acc c' h1 h2 => .inl ⟨acc, c', rfl, h1, h2⟩) (fun e s' h => .inr ⟨e, rfl, h⟩))
  refine wpAny_mono key (fun fin s' x => ?_) fun e s' x => ?_
  · cases fin with
    | done f =>
      rcases x with ⟨acc, c', e, hS, hq⟩ | ⟨e, he, _⟩
      · cases e
        show wpAny _ A (load s.heap.objs.size >>= _) _ _ _
        exact wpAny_bind (wpAny_load hS (wpAny_pure hq))
      · cases he
    | again c₁ =>
      refine ⟨x.1, codeAny_mono x.2 fun q s₂ y => ?_⟩
      rcases y with ⟨acc, c', rfl, hS, hq⟩ | ⟨e, rfl, he⟩
      · show wpAny _ A (load s.heap.objs.size >>= _) _ _ _
        exact wpAny_bind (wpAny_load hS (wpAny_pure hq))
      · exact he
  · rcases x with ⟨acc, c', e', _⟩ | ⟨e', he, hE⟩
    · cases e'
    · cases he; exact hE
/-- texts sorted, whatever the source -/
theorem sort_vals {vs : List Value} {ss : List (List Nat)} {Q : Value → Shared → Prop} (hv : SV vs ss) (hz : ss.length < 64)
    (h : ∀ c ys ts s' e, SV ys ts → ts.Perm ss → Rising ts → Ext [] s s' → s.heap.objs.size ≤ c → s'.heap.get? c = some (lsO ys.toArray e) → Q (.ref c) s') :
    wpAny (model prog w) A (do let l ← newList vs; let _ ← holding [l] (call (.builtin "list.sort") [l]); pure l) Q E s := by
  refine wpAny_bind (wpAny_newList ?_ (by rw [sizeLine_eq, hv.len]; omega))
  have hoL : (s.heap.push (seqObj "list" vs.toArray 0)).get? s.heap.objs.size = some (seqObj "list" vs.toArray 0) := Heap.get?_push_size _ rfl
  refine wpAny_bind (wpAny_holding (wpAny_call_entry slot_list_sort ⟨_, hoL, rfl⟩ entry_list_sort (list_sort_treeK strKind_oneLt hoL hv.strs.keysOf (fun v₁ v₂ rest e => keyKind_strs (by rw [← e]; exact hv.strs)) (by rw [hv.len]; exact hz) fun st' a1 a2 => ⟨_, rfl, ?_⟩) (args_list_sort _)))
  obtain ⟨ss', h1, h2, h3⟩ := sorted_out_str hv.strs a1 a2
  obtain ⟨e, he⟩ := sortedHeap_at (vs := vs) (out := (arrOf st').map (·.2)) hoL
  have hp := h2.map fun x => x.cps.toList
  rw [map_cps] at hp
  refine wpAny_pure (h _ ((arrOf st').map (·.2)).toList _ _ e (SV.of h1) hp (rising_of h3) (Ext.heap (s := s) (tk := s.toks) fun b o _ q => ?_) (Nat.le_refl _) (by rw [Array.toArray_toList]; exact he))
  have hlt := Heap.lt_size q
  exact (sortedHeap_old (Nat.ne_of_lt hlt) (by rw [Heap.size_push]; exact Nat.lt_succ_of_lt hlt)).trans (Heap.get?_push_of_some _ q)
theorem sorted_feed {T : Value} {Q : Value → Shared → Prop} (k : Nat) (X : Src prog w A.in1.in1 I s T)
    (hF : ∀ (S : Addr) (R : Result → Shared → Prop) s₁ c, s.heap.objs.size ≤ S → Ext [] s s₁ → s₁.heap.get? S = some (lsO #[] c) →
      (∀ s' acc c', s'.heap.get? S = some (lsO acc c') → (∃ ss, SV acc.toList ss ∧ ss.length < 64 ∧ ∀ c ys ts s'' e, SV ys ts → ts.Perm ss → Rising ts → Ext [] s' s'' → s'.heap.objs.size ≤ c → s''.heap.get? c = some (lsO ys.toArray e) → Q (.ref c) s'') → R (.ok (.ret (.ref S))) s') → Feed prog w A.in1.in1 I S R (.ref S) k #[] s₁) :
    wpAny (model prog w) A (call (.builtin "sorted") [.ref I]) Q E s := by
  refine call_function_entry kind_sorted plain_sorted entry_sorted (args_sorted1 _) ?_
  unfold Builtin.«sorted»
  refine wpAny_bind (m := checkCount "sorted" 1 1 _) (wpAny_pure ?_)
  show wpAny _ A.in1 (collect (.ref I) >>= fun vs => (do let l ← newList vs; let _ ← holding [l] (call (.builtin "list.sort") [l] []); ret l)) _ _ s
  refine wpAny_bind (collect_feed (A := A.in1) k X fun S R s₁ c hS Xs h1 hok _ => hF S R s₁ c hS Xs h1 fun s' acc c' h2 hq => hok s' acc c' h2 ?_)
  obtain ⟨ss, hv, hz, hq⟩ := hq
  have key := sort_vals (prog := prog) (w := w) (A := A.in1) (s := s') (E := E) (Q := Q) hv hz hq
  have e : (do let l ← newList acc.toList; let _ ← holding [l] (call (.builtin "list.sort") [l] []); ret l : Sem Fin) = ((do let l ← newList acc.toList; let _ ← holding [l] (call (.builtin "list.sort") [l]); pure l) >>= fun l => ret l) := by
    rw [LawfulMonad.bind_assoc]
    refine bind_congr fun l => ?_
    rw [LawfulMonad.bind_assoc]
    rfl
  rw [e]
  exact wpAny_bind (wpAny_mono key (fun v s'' h => wpAny_pure ⟨v, rfl, h⟩) fun _ _ h => h)
/-- texts joined, drawn from a generator -/
theorem join_feed {g : Nat} {sep : List Nat} {t : Tok} {Q : Value → Shared → Prop} (k : Nat) (hg : s.heap.IsGen I g) (X : Src prog w A.in1.in1 I s (.type "generator"))
    (hF : ∀ (B : Addr) (R : Result → Shared → Prop) s₁ c, s.heap.objs.size ≤ B → Ext [] s s₁ → s₁.heap.get? B = some (lsO #[] c) →
      (∀ s' acc c', s'.heap.get? B = some (lsO acc c') → (∃ ss, SV acc.toList ss ∧ (ss.map (·.length)).sum + ss.length * sep.length ≤ 1000000 ∧ ∀ t' k, Q (.str (S (joined sep ss)) t') { s' with toks := k }) → R (.ok (.ret (.ref B))) s') → Feed prog w A.in1.in1 I B R (.ref B) k #[] s₁) :
    wpAny (model prog w) A (call (.builtin "str.join") [.str (S sep) t, .ref I]) Q E s := by
  refine wpAny_call (codeAny_call_builtin PySem.F.slot_str_join.plain PySem.F.entry_str_join (PySem.F.slot_str_join.check _ _ _ _ _ _ _ _ (typeIs_str _ _ _) (PySem.F.args_str_join_2 _ _) ?_))
  rw [join_tree_other]
  refine wpAny_bind (wpAny_typeOf hg.typeIs ?_)
  refine wpAny_ite_split (fun hab => absurd hab (by decide)) (fun _ => ?_)
  refine wpAny_bind (wpAny_tryCatch (wpAny_pyIter_gen hg ?_))
  refine wpAny_bind (collect_feed (A := A.in1) k X fun S' R s₁ c hS Xs h1 hok _ => hF S' R s₁ c hS Xs h1 fun s' acc c' h2 hq => hok s' acc c' h2 ?_)
  obtain ⟨ss, hv, hz, hq⟩ := hq
  obtain ⟨l, hl, hls⟩ := strsAre_values hv.strs
  rw [hl]
  have hok : JoinOk (S sep) (l.map (·.1)) = true := by
    rw [hls]
    refine joinOk_of ?_
    rw [List.map_map, List.length_map, S_len, show ((fun x : Str => x.length) ∘ S) = (fun x => x.length) from funext S_len]; omega
  have hok' := hok
  unfold JoinOk at hok
  rw [Bool.not_eq_true'] at hok
  have gv : Gives (joinTail (S sep) (strValues l)) (joinMade (S sep) l) := by
    have g0 := gives_joinTail (S sep) l hok
    cases l with
    | nil => exact g0
    | cons p r => cases r with
      | nil => exact g0
      | cons q r' => exact g0
  refine gv prog w A (wants Q E) s' (post_join l ⟨joinFit_length hok, fun t' k => ?_⟩)
  have := hq t' k
  rw [show PySem.Txt.join (S sep) (l.map (·.1)) = S (joined sep ss) from by rw [hls, show PySem.Txt.join (S sep) (ss.map S) = Str.join (S sep) (ss.map S) from StrLaws.glued_eq_join _ _, join_S]]
  exact this
end

theorem codeAmong_other {p q : Pos} {c : Value} (hne : (p.line == q.line && p.col == q.col) = false) : ∀ (l : List Value), TriplesOk l → codeAmong q (l ++ [rawInt p.line, rawInt p.col, c]) = codeAmong q l
  | l, h => by
    fun_induction TriplesOk l with
    | case1 =>
      show codeAmong q [rawInt p.line, rawInt p.col, c] = _
      unfold rawInt codeAmong
      have : (((p.line : Nat) : Int) == (q.line : Nat) && ((p.col : Nat) : Int) == (q.col : Nat)) = false := by
        rw [Bool.and_eq_false_iff] at hne ⊢
        rcases hne with h | h
        · left; simp at h ⊢; omega
        · right; simp at h ⊢; omega
      rw [this]
      rfl
    | case2 a b c' d e rest ih =>
      simp only [List.cons_append, codeAmong]
      rw [ih h]
    | case3 => exact h.elim
section
variable {prog : Program} {w : World} {A : Around} {s : Shared} {E : Value → Shared → Prop} {env : Env} {pos : Pos} {Q : Value → Shared → Prop}
/-- a text's slice, by heaps alone -/
theorem subK {value : Expr} {lower upper : Option Expr} {p : Pos}
    (h : wpAny (model prog w) A (eval value env) (fun o s₁ => wpAny (model prog w) A (evalPart lower env) (fun vl s₂ => wpAny (model prog w) A (evalPart upper env) (fun vu s₃ =>
      ∃ (l : List Nat) (t : Tok) (lo hi : Option Int), o = .str (S l) t ∧ IsPart vl lo ∧ IsPart vu hi ∧ l.length ≤ 1000000 ∧
        ∀ t' h' tk, (∀ b o, s₃.heap.get? b = some o → h'.get? b = some o) → Q (.str (S (sl lo hi l)) t') { s₃ with heap := h', toks := tk }) E s₂) E s₁) E s)
    (ht : ∀ o r, letTemporaryGo value o r = pure () := by intro _ _; rfl) :
    wpAny (model prog w) A (eval (.Subscript value (.Slice lower upper none p) pos) env) Q E s := by
  refine wpAny_Subscript_str_slice (wpAny_mono h (fun o s₁ h₁ => wpAny_mono h₁ (fun vl s₂ h₂ => wpAny_mono h₂ (fun vu s₃ h₃ => ?_) fun _ _ e => e) fun _ _ e => e) fun _ _ e => e) ht
  obtain ⟨l, t, lo, hi, rfl, pl, pu, hz, hQ⟩ := h₃
  have e1 : ∃ lo' : Option (Int × Tok), vl = partValue lo' ∧ lo'.map (·.1) = lo := by cases pl with | none => exact ⟨none, rfl, rfl⟩ | int i t => exact ⟨some (i, t), rfl, rfl⟩
  have e2 : ∃ hi' : Option (Int × Tok), vu = partValue hi' ∧ hi'.map (·.1) = hi := by cases pu with | none => exact ⟨none, rfl, rfl⟩ | int i t => exact ⟨some (i, t), rfl, rfl⟩
  obtain ⟨lo', rfl, rfl⟩ := e1
  obtain ⟨hi', rfl, rfl⟩ := e2
  refine ⟨S l, t, lo', hi', rfl, rfl, rfl, ?_⟩
  have key := slicePicked_S l lo' hi'
  unfold sliceMade
  rw [key]
  split
  · rename_i hw
    simp only [Option.map_none, Option.getD_none, beq_self_eq_true, Bool.true_and, beq_iff_eq] at hw
    have e : sl (lo'.map (·.1)) (hi'.map (·.1)) l = l := by
      have h2 : (slicePicked (S l) lo' hi' none).length = hiC l.length (hi'.map (·.1)) - loC l.length (lo'.map (·.1)) := by
        unfold slicePicked; simp only [Option.map_none, Option.getD_none, S_len]; rw [strIdx]; simp
      rw [h2, S_len] at hw
      have h3 := hiC_le l.length (hi'.map (·.1))
      unfold sl
      rw [hw]
      rcases l with _ | ⟨x, r⟩
      · simp
      · have h0 : loC (x :: r).length (lo'.map (·.1)) = 0 := by simp only [List.length_cons] at hw h3 ⊢; omega
        rw [h0, List.drop_zero, List.take_of_length_le (Nat.le_refl _)]
    have hq := hQ t (s₃.heap.push { cls := .type "slice", data := .fields #[partValue lo', partValue hi', .none] }) s₃.toks (fun b o e => Heap.get?_push_of_some _ e)
    rw [e] at hq
    exact hq
  · refine ⟨?_, hQ _ _ _ (fun b o e => Heap.get?_push_of_some _ e)⟩
    show (S (sl (lo'.map (·.1)) (hi'.map (·.1)) l)).length ≤ sizeLine
    rw [S_len, sizeLine_eq]
    unfold sl
    rw [List.length_take, List.length_drop]; omega
end

section
variable {prog : Program} {w : World} {A : Around} {s : Shared} {E : Value → Shared → Prop} {env : Env} {pos : Pos} {Q : Value → Shared → Prop}
/-- a text backwards -/
theorem rev_eval {value : Expr} {k : Nat} {p1 p2 p3 : Pos}
    (h : wpAny (model prog w) A (eval value env) (fun o s₁ => ∃ (l : List Nat) (t : Tok), o = .str (S l) t ∧ l.length ≤ 1000000 ∧ ∀ t' s', Ext [] s₁ s' → Q (.str (S l.reverse) t') s') E s)
    (ht : ∀ o r, letTemporaryGo value o r = pure () := by intro _ _; with_unfolding_all rfl)
    (hs' : ∀ o i, ∃ ops, subscripted (.Slice none none (some (.UnaryOp .USub (.Constant (.int 1) k p1) p2)) p3) false o i = operate ops (getItem o i) := by intro _ _; exact ⟨_, by with_unfolding_all rfl⟩) :
    wpAny (model prog w) A (eval (.Subscript value (.Slice none none (some (.UnaryOp .USub (.Constant (.int 1) k p1) p2)) p3) pos) env) Q E s := by
  refine Subscript_ (wpAny_mono h (fun o s₁ h₁ => ?_) fun _ _ e => e)
  obtain ⟨l, t, rfl, hz, hq⟩ := h₁
  refine wpAny_Slice (wpAny_evalPart_none (wpAny_evalPart_none (wpAny_evalPart_some (wpAny_UnaryOp (wpAny_Constant_int (PyProof.Rows.neg_int ?_))))))
  have hsl : ∀ tk, (s₁.heap.push { cls := .type "slice", data := .fields #[Value.none, Value.none, .int (-1) tk] }).get? s₁.heap.objs.size = some { cls := .type "slice", data := .fields #[Value.none, Value.none, .int (-1) tk] } := fun tk => Heap.get?_push_size _ rfl
  obtain ⟨ops, hs'⟩ := hs' (.str (S l) t) (.ref s₁.heap.objs.size)
  refine tail_of_ItemOn ⟨"str", _, PySem.F.slot_str_getitem.lookup, typeIs_str _ _ _, wpAny_getItem_str_slice (l := none) (u := none) (st := some (-1, _)) ⟨_, hsl _, rfl, rfl⟩ (by rfl) ?_⟩ hs' (fun r => ht _ r)
  have key : ∀ tk, ((slicePicked (S l) none none (some (-1, tk))).filterMap ((S l).cps[·]?)) = l.reverse := fun tk => by
    unfold slicePicked
    simp only [Option.map_none, Option.map_some, Option.getD_some, S_len]
    rw [picked_rev, krv_range, List.filterMap_reverse]
    have := krv_all (S l).cps
    rw [show (S l).cps.size = l.length from S_len l] at this
    rw [this]; rfl
  unfold sliceMade
  rw [key, if_neg (by simp)]
  refine ⟨?_, hq _ _ (Ext.heap (s := s₁) fun b o _ e => Heap.get?_push_of_some _ e)⟩
  show (S l.reverse).length ≤ sizeLine
  rw [S_len, sizeLine_eq, List.length_reverse]; omega
end

section
variable {prog : Program} {w : World} {A : Around} {s s₀ : Shared} {R : GenEnd} {Z : Nat → Shared → Value → Shared → Prop} {Z' : Nat → Shared → Shared → Prop}
/-- what a generator gives and what it wants back -/
def Prot (Z : Nat → Shared → Value → Shared → Prop) (Z' : Nat → Shared → Shared → Prop) : Protocol := fun m s₀ v s kap => Z m s₀ v s ∧ ∀ s'' : Shared, Z' m s s'' → kap (.send .none) s''
abbrev genLoop (elt iter : Expr) (x : Str) (px : Pos) (scope : Scope) (pos : Pos) (I : Addr) (cenv : Env) : Code := .compLoop (.GeneratorExp elt [⟨.Name x px, iter, [], 0⟩] scope pos) 0 (.ref I) .none cenv
theorem seg_turn {elt iter : Expr} {x : Str} {px : Pos} {scope : Scope} {pos : Pos} {I : Addr} {cenv : Env} {n : Nat} (hco : cenv.scope.isCoroutine = false)
    (h : wpAny (model prog w) (A.over (genLoop elt iter x px scope pos I cenv) []) (pyNext (.ref I)) (fun r s' => match r with
      | none => R n s₀ (.ok .next) s'
      | some v => wpAny (model prog w) (A.over (genLoop elt iter x px scope pos I cenv) []) (storeName cenv x v) (fun _ s₂ =>
          wpAny (model prog w) (A.over (genLoop elt iter x px scope pos I cenv) []) (eval elt cenv) (fun y s₃ => ∃ m, n = m + 1 ∧ Z m s₀ y s₃ ∧
            ∀ s'', Z' m s₃ s'' → Seg (model prog w) A R (Prot Z Z') m s'' (genLoop elt iter x px scope pos I cenv) ((model prog w).den (genLoop elt iter x px scope pos I cenv)) [] s'') (fun _ _ => False) s₂) (fun _ _ => False) s') (fun _ _ => False) s) :
    Seg (model prog w) A R (Prot Z Z') n s₀ (genLoop elt iter x px scope pos I cenv) ((model prog w).den (genLoop elt iter x px scope pos I cenv)) [] s := by
  show Seg _ A _ _ _ s₀ _ ((compTurn (.GeneratorExp elt [⟨.Name x px, iter, [], 0⟩] scope pos) 0 (.ref I) .none cenv).onRaise (leaving cenv)) [] s
  rw [compTurn_gen, Sem.onRaise_eq_wrap]
  refine seg_bind_wrap (wpAny_standAt ?_)
  refine seg_bind_wrap (wpAny_mono h (fun r s' hr => ?_) fun _ _ e => e.elim)
  cases r with
  | none => exact seg_end (.ok .next) hr
  | some v =>
    refine seg_bind_wrap (wpAny_of_eq (rfl : letOwnedTupleGo (.Name x px) (.ref I) v = pure ()) ?_)
    refine seg_bind_wrap (wpAny_assign_Name (wpAny_mono hr (fun _ s₂ h₂ => ?_) fun _ _ e => e.elim))
    refine seg_bind_wrap (wpAny_pure ?_)
    simp only [if_true]
    have hy : ∀ v, yieldOut cenv v = yieldValue v := fun v => by simp only [yieldOut, hco, Bool.false_eq_true, if_false]
    simp only [hy]
    rw [Sem.bind_eq_wrap', Sem.bind_eq_wrap', Sem.wrap_wrap, Sem.wrap_wrap]
    refine seg_wrap (wpAny_mono h₂ (fun y s₃ h₃ => ?_) fun _ _ e => e.elim)
    obtain ⟨m, rfl, hZ, hk⟩ := h₃
    exact seg_at (seg_yield rfl rfl rfl ⟨hZ, fun s'' hz => seg_again rfl (hk s'' hz)⟩)
end

section
variable {prog : Program} {w : World} {A : Around} {s s₀ : Shared} {R : GenEnd} {Y : Protocol}
abbrev genStart (elt iter : Expr) (x : Str) (px : Pos) (scope : Scope) (pos : Pos) (I : Addr) (cenv : Env) : Code := .compStart (.GeneratorExp elt [⟨.Name x px, iter, [], 0⟩] scope pos) 0 (.ref I) .none cenv
theorem seg_start {elt iter : Expr} {x : Str} {px : Pos} {scope : Scope} {pos : Pos} {I : Addr} {cenv : Env} {n : Nat}
    (hit : ∀ (Q : Value → Shared → Prop) (E : Value → Shared → Prop), (∀ s', Ext [] s s' → Q (.ref I) s') → wpAny (model prog w) (A.over (genStart elt iter x px scope pos I cenv) []) (pyIter (.ref I)) Q E s)
    (loop : ∀ s', Ext [] s s' → Seg (model prog w) A R Y n s₀ (genLoop elt iter x px scope pos I cenv) ((model prog w).den (genLoop elt iter x px scope pos I cenv)) [] s') :
    Seg (model prog w) A R Y n s₀ (genStart elt iter x px scope pos I cenv) ((model prog w).den (genStart elt iter x px scope pos I cenv)) [] s := by
  show Seg _ A _ _ _ s₀ _ ((compStart (.GeneratorExp elt [⟨.Name x px, iter, [], 0⟩] scope pos) 0 (.ref I) .none cenv).onRaise (leaving cenv)) [] s
  unfold compStart
  rw [Sem.onRaise_eq_wrap]
  show Seg _ A _ _ _ s₀ _ ((ask >>= _).wrap _ _ _ _) [] s
  refine seg_bind_wrap (wpAny_askSetting ?_)
  split
  · exact seg_again rfl (loop s (Ext.refl _ _))
  · refine seg_bind_wrap (wpAny_rule ?_)
    show Seg _ A _ _ _ s₀ _ ((standAt iter.pos >>= _).wrap _ _ _ _) [] s
    exact seg_bind_wrap (wpAny_standAt (seg_bind_wrap (hit _ _ fun s' X => seg_again rfl (loop s' X))))
end
section
variable {D : List Addr} {g s s' : Shared} {L : Addr} {m : Str → Option Value} {news : List (Addr × Sh)} {i : Nat} {x : GenState}
theorem Ext.setGen (X : Ext D g s) (hi : g.gens.size ≤ i) (hb : x.bare = true) : Ext D g (s.setGen i x) :=
  ⟨X.keep, X.os, fun j y e => by
    have hlt := (Array.getElem?_eq_some_iff.mp e).1
    have h := X.gens j y e
    show (s.gens.setIfInBounds i x)[j]? = _
    rw [Array.getElem?_setIfInBounds_ne (by omega)]; exact h, fun h y hy => by
    have hy : y ∈ s.gens.setIfInBounds i x := hy
    obtain ⟨k, hk, rfl⟩ := Array.mem_iff_getElem.mp hy
    have hk' : k < s.gens.size := by simpa using hk
    rw [Array.getElem_setIfInBounds hk']
    split
    · exact hb
    · exact X.bare h _ (Array.getElem_mem hk'), X.soft⟩
theorem Fs.setGen (F : Fs D g L m news s) (hi : g.gens.size ≤ i) (hb : x.bare = true) : Fs D g L m news (s.setGen i x) :=
  ⟨F.ext.setGen hi hb, F.loc, F.newL, F.led, F.own, F.nd⟩
theorem gens_lt (X : Ext D s s') (h : i < s.gens.size) : i < s'.gens.size :=
  (Array.getElem?_eq_some_iff.mp (X.gens i _ (Array.getElem?_eq_getElem h))).1
theorem setGen_at (h : i < s.gens.size) : (s.setGen i x).gens[i]? = some x := by simp [Shared.setGen, h]
theorem setGen_twice {y : GenState} (h : i < s.gens.size) : i < (s.setGen i y).gens.size := by simpa [Shared.setGen] using h
end
section
variable {prog : Program} {w : World} {A : Around} {s : Shared} {a : Addr} {g : Nat}
theorem Src.gen (hg : s.heap.IsGen a g) : Src prog w A a s (.type "generator") where
  lt := let ⟨o, _, _, ho, _⟩ := hg; Heap.lt_size ho
  ty := let ⟨o, _, _, ho, hc, _⟩ := hg; hc ▸ (Looks.ld ho).andThen .now
  ty1 := by decide
  ty2 := by decide
  it := fun s₀ Q E X hq => wpAny_pyIter_gen (hg.keeps fun b o e => X.keep b o (by simp) e) (hq s₀ (Ext.refl _ _))
  len := let ⟨o, _, _, ho, hc, _⟩ := hg; (show Looks (model prog w) s.heap (typeOf (.ref a)) (.type "generator") from hc ▸ (Looks.ld ho).andThen .now).andThen (Looks.of_pure PySem.F.gen_no_len)
  hint := let ⟨o, _, _, ho, hc, _⟩ := hg; (show Looks (model prog w) s.heap (typeOf (.ref a)) (.type "generator") from hc ▸ (Looks.ld ho).andThen .now).andThen (Looks.of_pure PySem.F.gen_no_hint)
end
/-! the surroundings of a generator's turn -/
section
variable {A : Around} {elt iter : Expr} {x : Str} {px : Pos} {scope : Scope} {pos : Pos} {I : Addr} {cenv : Env}
theorem frames_loop {l : List Env} (h : A.frames = some l) : (A.over (genLoop elt iter x px scope pos I cenv) []).frames = some (cenv :: l) := by
  show pushEnvs [cenv] (pushEnvs [] A.frames) = _
  rw [h]; rfl
theorem frames_start {l : List Env} (h : A.frames = some l) : (A.over (genStart elt iter x px scope pos I cenv) []).frames = some (cenv :: l) := by
  show pushEnvs [cenv] (pushEnvs [] A.frames) = _
  rw [h]; rfl
theorem Cx.loop {d u : Nat} (C : Cx A (d + 1) (u + 3)) : Cx (A.over (genLoop elt iter x px scope pos I cenv) []) d u :=
  ⟨C.hh, by have := C.dp; show A.depth + 0 + 1 + d < _; omega, by have := C.un; show A.units + 0 + 3 + u < _; omega⟩
theorem Cx.start {d u : Nat} (C : Cx A (d + 1) (u + 3)) : Cx (A.over (genStart elt iter x px scope pos I cenv) []) d u :=
  ⟨C.hh, by have := C.dp; show A.depth + 0 + 1 + d < _; omega, by have := C.un; show A.units + 0 + 3 + u < _; omega⟩
theorem frs_loop {L : Addr} {l : List Env} (h : A.frames = some l) (hf : cenv.frame = some L) : frs (A.over (genLoop elt iter x px scope pos I cenv) []) = L :: frs A := by
  unfold frs
  rw [frames_loop h, h]
  simp [hf]
theorem Up.loop {k : Nat} {D : List Addr} {g s : Shared} {L : Addr} {m : Str → Option Value} {news : List (Addr × Sh)} (U : Up k A g.heap) (F : Fs D g L m news s) (hf : cenv.frame = some L) (hk : cenv.scope.kind ≠ .module) (hL : k ≤ L) : Up k (A.over (genLoop elt iter x px scope pos I cenv) []) s.heap := by
  obtain ⟨l, hl, h⟩ := U.ext F.ext
  refine ⟨cenv :: l, frames_loop hl, fun e he => ?_⟩
  rcases List.mem_cons.mp he with rfl | he
  · obtain ⟨m₀, n, _⟩ := F.loc
    exact ⟨hk, L, hf, hL, m₀, n⟩
  · exact h e he
end

/-- a list of texts, cut in two -/
theorem sv_cut {items : Array Value} {l tw dw : List (List Nat)} (hv : SV items.toList l) (hl : l = tw ++ dw) (P : Value → Prop) (h1 : ∀ x ∈ tw, ∀ t, P (Value.str (S x) t)) (htw : tw ≠ []) :
    ∃ cv, items[0]? = some cv ∧ P cv ∧ SV (cv :: (items.toList.drop 1).take (tw.length - 1)) tw ∧ ∀ m < tw.length - 1, ∃ v, items[1 + m]? = some v ∧ P v := by
  obtain ⟨x, tw', rfl⟩ : ∃ x r, tw = x :: r := by cases tw with | nil => exact absurd rfl htw | cons x r => exact ⟨x, r, rfl⟩
  have key : ∀ (p : Nat) (y : List Nat), (x :: tw')[p]? = some y → ∃ t, items[p]? = some (Value.str (S y) t) := fun p y e => by
    have e2 : l[p]? = some y := by
      rw [hl, List.getElem?_append_left (List.getElem?_eq_some_iff.mp e).1]; exact e
    obtain ⟨t, ht⟩ := hv.at e2
    exact ⟨t, by simpa using ht⟩
  obtain ⟨t, h0⟩ := key 0 x rfl
  refine ⟨_, h0, h1 x (.head _) t, ?_, fun m hm => ?_⟩
  · have h2 := hv.take (x :: tw').length
    rw [hl, List.take_left'] at h2
    · have h3 : items.toList = Value.str (S x) t :: items.toList.drop 1 := by
        have hlt := (Array.getElem?_eq_some_iff.mp h0).1
        have : items.toList.drop 0 = items.toList[0] :: items.toList.drop 1 := List.drop_eq_getElem_cons (by simpa using hlt)
        rw [List.drop_zero] at this
        have e : items.toList[0]'(by simpa using hlt) = Value.str (S x) t := by
          have := (Array.getElem?_eq_some_iff.mp h0).2
          simpa using this
        rw [e] at this; exact this
      rw [h3, List.length_cons, List.take_succ_cons] at h2
      exact h2
    · rfl
  · have hlt : 1 + m < (x :: tw').length := by simp at hm ⊢; omega
    obtain ⟨t, ht⟩ := key (1 + m) _ (List.getElem?_eq_getElem hlt)
    exact ⟨_, ht, h1 _ (List.getElem_mem hlt) t⟩
theorem sv_drop {items : Array Value} {l tw dw : List (List Nat)} (hv : SV items.toList l) (hl : l = tw ++ dw) (P : Value → Prop) (h2 : ∀ x ∈ dw, ∀ t, P (Value.str (S x) t)) (hdw : dw ≠ []) :
    ∃ cv, items[tw.length]? = some cv ∧ P cv ∧ SV (cv :: (items.toList.drop (tw.length + 1)).take (dw.length - 1)) dw ∧ (∀ m < dw.length - 1, ∃ v, items[tw.length + 1 + m]? = some v ∧ P v) ∧ items[tw.length + 1 + (dw.length - 1)]? = none := by
  have hd := hv.drop tw.length
  rw [hl, List.drop_left'] at hd
  · have hv' : SV (items.toList.drop tw.length).toArray.toList (dw ++ []) := by simpa using hd
    obtain ⟨cv, e1, e2, e3, e4⟩ := sv_cut hv' rfl P (by simpa using h2) (by simpa using hdw)
    refine ⟨cv, by simpa using e1, e2, ?_, fun m hm => ?_, ?_⟩
    · have : (List.drop tw.length items.toList).toArray.toList.drop 1 = items.toList.drop (tw.length + 1) := by simp [List.drop_drop]
      rw [← this]; simpa using e3
    · obtain ⟨v, h1, h2⟩ := e4 m (by simpa using hm)
      exact ⟨v, by rw [show tw.length + 1 + m = tw.length + (1 + m) by omega]; simpa using h1, h2⟩
    · have h1 := hv.len
      rw [hl, List.length_append, Array.length_toList] at h1
      have := List.length_pos_iff.mpr hdw
      exact Array.getElem?_eq_none (by omega)
  · rfl
theorem below_ne {w1 : List Nat} {r : List (List Nat)} (hw : w1 ≠ []) (up : Rising (w1 :: r)) : ∀ x ∈ w1 :: r, x ≠ [] := fun x hx q => by
  subst q
  rcases List.mem_cons.mp hx with h | h
  · exact hw h.symm
  · have := (List.pairwise_cons.mp up).1 [] h
    cases w1 with
    | nil => exact hw rfl
    | cons a b => exact this (by simp)

/-! sets of texts -/
def byT (w : World) : Bool := w.params.followText "set-order"
def setO (es : Array (Int × Value)) (ep : Nat) (t : SetTable) : Obj := { cls := .type "set", dict := none, data := .set es ep t }
structure SetT (prog : Program) (w : World) (es : Array (Int × Value)) (t : SetTable) (ss : List (List Nat)) : Prop where
  el : ElemsOf (strKind prog w) es.toList
  sv : SV (es.toList.map (·.2)) ss
  fits : t.fits es.size = true
  led : t.led = !byT w
  plain : t.plain = true → es.size = 0
def SetIs (prog : Program) (w : World) (h : Heap) (a : Addr) (ss : List (List Nat)) : Prop := ∃ es ep t, h.get? a = some (setO es ep t) ∧ SetT prog w es t ss
theorem SetT.size {prog : Program} {w : World} {es : Array (Int × Value)} {t : SetTable} {ss : List (List Nat)} (h : SetT prog w es t ss) : es.size = ss.length := by
  rw [← h.sv.len, List.length_map, Array.length_toList]
theorem layNew_led (t : SetTable) (es : Array (Int × Value)) (h : Int) (x : Value) : (layNew t es h x).2.1.led = t.led ∧ (t.plain = false → (layNew t es h x).2.1.plain = false) := by
  unfold layNew
  split
  · rename_i slot wd _
    show ((SetTable.orStandIn _ _).led = _) ∧ (_ → (SetTable.orStandIn _ _).plain = _)
    unfold SetTable.orStandIn
    split
    · exact ⟨rfl, fun h => h⟩
    · exact ⟨rfl, fun _ => rfl⟩
  · exact ⟨rfl, fun _ => rfl⟩
theorem relayAll_led (t : SetTable) (es : Array (Int × Value)) (n : Nat) : (relayAll t es n).2.1.led = t.led ∧ (t.plain = false → (relayAll t es n).2.1.plain = false) := by
  unfold relayAll
  split
  · rename_i t' order hr
    dsimp only
    split
    · unfold SetTable.relaid SetTable.laid at hr
      simp only [Option.bind_eq_bind, Option.bind_eq_some_iff] at hr
      obtain ⟨ow, _, e⟩ := hr
      cases e
      exact ⟨rfl, fun h => h⟩
    · exact ⟨rfl, fun _ => rfl⟩
  · exact ⟨rfl, fun _ => rfl⟩
theorem sv_perm {vs us : List Value} (hp : us.Perm vs) : ∀ {ss : List (List Nat)}, SV vs ss → ∃ ts, SV us ts ∧ ts.Perm ss := by
  induction hp with
  | nil => intro ss h; cases h; exact ⟨[], .nil, .refl _⟩
  | cons v _ ih =>
    intro ss h
    cases h with
    | cons h => obtain ⟨ts, h1, h2⟩ := ih h; exact ⟨_ :: ts, .cons h1, h2.cons _⟩
  | swap a b l =>
    intro ss h
    cases h with
    | cons h =>
      cases h with
      | cons h => exact ⟨_, .cons (.cons h), .swap _ _ _⟩
  | trans _ _ ih1 ih2 =>
    intro ss h
    obtain ⟨ts, h1, h2⟩ := ih2 h
    obtain ⟨us, h3, h4⟩ := ih1 h1
    exact ⟨us, h3, h4.trans h2⟩
section
variable {prog : Program} {w : World} {A : Around} {s : Shared} {E : Value → Shared → Prop} {a : Addr} {es : Array (Int × Value)} {ep : Nat} {t : SetTable} {ss : List (List Nat)} {x : List Nat} {tk : Tok}
theorem strK_is (x y : List Nat) (t : Tok) : (strKind prog w).is (S x) (.str (S y) t) = decide (x = y) := by
  show (S y == S x) = _
  rw [S_eq]
  simp [eq_comm]
theorem SetT.find (h : SetT prog w es t ss) (x : List Nat) : (es.toList.findIdx? (fun e => (strKind prog w).is (S x) e.2)).isSome = decide (x ∈ ss) := by
  have key : ∀ (l : List (Int × Value)) (ss : List (List Nat)), SV (l.map (·.2)) ss → (l.findIdx? (fun e => (strKind prog w).is (S x) e.2)).isSome = decide (x ∈ ss) := by
    intro l
    induction l with
    | nil => intro ss h; cases h; rfl
    | cons e l ih =>
      intro ss h
      obtain ⟨hh, v⟩ := e
      cases h with
      | cons h =>
        rename_i a u ss
        rw [List.findIdx?_cons]
        dsimp only
        rw [strK_is]
        by_cases q : x = a
        · simp [q]
        · simp only [decide_eq_true_eq, q, if_false, Option.isSome_map, ih _ h, List.mem_cons, false_or]
  exact key _ _ h.sv
theorem setO_put (es : Array (Int × Value)) (ep : Nat) (t : SetTable) (es' : Array (Int × Value)) (t' : SetTable) : Obj.putSet es' t' (setO es ep t) = setO es' (ep + 1) t' := rfl
theorem store_at {h : Heap} (e : h.get? a = some (setO es ep t)) (es' : Array (Int × Value)) (t' : SetTable) : (h.update a (Obj.putSet es' t')).get? a = some (setO es' (ep + 1) t') := by
  have := Heap.get?_update_self (Obj.putSet es' t') e rfl
  rwa [setO_put] at this
/-- what adding ends in -/
theorem add_tail {g : Bool → Sem Unit} (hg : ∀ (b : Bool) (s₁ : Shared) (Q' : Unit → Shared → Prop), Q' () s₁ → wpAny (model prog w) A (g b) Q' E s₁) (he : s.heap.get? a = some (setO es ep t)) {es1 : Array (Int × Value)} {t1 : SetTable} {ts : List (List Nat)} {wd : Bool} {Q : Option Bool → Shared → Prop}
    (el : ElemsOf (strKind prog w) es1.toList) (sv : SV (es1.toList.map (·.2)) ts) (hf : t1.fits es1.size = true) (hl : t1.led = !byT w) (hp : t1.plain = false) (hz : es1.size ≤ 5000)
    (h : ∀ h' ts', Heap.SameBut a s.heap h' → SetIs prog w h' a ts' → ts'.Perm ts → Q (some true) { s with heap := h' }) :
    wpAny (model prog w) A (do
        storeSet a es1 t1
        if (!wd && t1.tooFull) = true then do
            g (relayAll t1 es1 (SetTable.grown es1.size)).2.2
            storeSet a (relayAll t1 es1 (SetTable.grown es1.size)).1 (relayAll t1 es1 (SetTable.grown es1.size)).2.1
            pure (some true)
          else pure (some true)) Q E s := by
  have hz' : es1.size ≤ sizeLine := by rw [sizeLine_eq]; omega
  refine wpAny_bind (wpAny_storeSet_of he rfl ?_ hz')
  have e1 := store_at he es1 t1
  have b1 := Heap.SameBut.update s.heap a (Obj.putSet es1 t1)
  split
  · have q1 := relayAll_perm t1 es1 (SetTable.grown es1.size)
    have q2 := relayAll_fits t1 es1 (SetTable.grown es1.size)
    have q3 := relayAll_led t1 es1 (SetTable.grown es1.size)
    generalize relayAll t1 es1 (SetTable.grown es1.size) = r at q1 q2 q3 ⊢
    obtain ⟨es2, t2, gave⟩ := r
    dsimp only at q1 q2 q3 ⊢
    obtain ⟨ts', s1, s2⟩ := sv_perm (q1.map (·.2)) sv
    have hz2 : es2.size = es1.size := by rw [← Array.length_toList, q1.length_eq, Array.length_toList]
    refine wpAny_bind (hg _ _ _ ?_)
    refine wpAny_bind (wpAny_storeSet_of e1 rfl ?_ (by rw [hz2]; exact hz'))
    have e2 := store_at e1 es2 t2
    refine wpAny_pure (h _ ts' (b1.trans (Heap.SameBut.update _ a _)) ⟨_, _, _, e2, el.perm q1, s1, q2, q3.1.trans hl, fun hp' => ?_⟩ s2)
    rw [q3.2 hp] at hp'; cases hp'
  · refine wpAny_pure (h _ ts b1 ⟨_, _, _, e1, el, sv, hf, hl, fun hp' => ?_⟩ (.refl _))
    rw [hp] at hp'; cases hp'
theorem set_add {Q : Bool → Shared → Prop} (hS : SetIs prog w s.heap a ss) (hn : ss.length < 1000) (h : ∀ b h' tk ss', Heap.SameBut a s.heap h' → SetIs prog w h' a ss' → ss'.Perm (if x ∈ ss then ss else ss ++ [x]) → Q b { s with heap := h', toks := tk }) :
    wpAny (model prog w) A (setAdd a (.str (S x) tk)) Q E s := by
  unfold setAdd
  refine wpAny_holding (wpAny_bind ((strKind prog w).pyHash (k := S x) (strKind_is _ _ _ _) ?_))
  have hS' : SetIs prog w ({ s with toks := s.toks + 1 } : Shared).heap a ss := hS
  replace h : ∀ b h' ss', Heap.SameBut a ({ s with toks := s.toks + 1 } : Shared).heap h' → SetIs prog w h' a ss' → ss'.Perm (if x ∈ ss then ss else ss ++ [x]) → Q b { ({ s with toks := s.toks + 1 } : Shared) with heap := h' } := fun b h' ss' a1 a2 a3 => h b h' _ ss' a1 a2 a3
  generalize ({ s with toks := s.toks + 1 } : Shared) = s at h hS' ⊢
  clear hS
  obtain ⟨es, ep, t, he, T⟩ := hS'
  have hz := T.size
  unfold setAddHashed setAddHashedIn
  refine wpAny_holding (wpAny_bind (wpAny_setState_of he rfl T.fits ?_))
  dsimp only
  have hbs : byScan (.str (S x) tk) es = true := byScan_of rfl (by rw [hz]; unfold scanBound; omega) T.el
  rw [hbs]
  simp only [↓reduceIte]
  unfold setAddByScan
  refine wpAny_bind ?_
  refine wpAny_bind (wpAny_rule ?_)
  refine wpAny_bind (wpAny_setScan_of (knd := strKind prog w) (k := S x) (strKind_is _ _ _ _) he rfl T.fits T.el ?_)
  have hfind := T.find x
  cases hr : List.findIdx? (fun e => (strKind prog w).is (S x) e.2) es.toList with
  | some j =>
    dsimp only
    rw [hr] at hfind
    have hx : x ∈ ss := of_decide_eq_true hfind.symm
    refine wpAny_pure (wpAny_pure ?_)
    have := h false s.heap ss (Heap.SameBut.refl a s.heap) ⟨es, ep, t, he, T⟩ (by rw [if_pos hx])
    exact this
  | none =>
    dsimp only
    rw [hr] at hfind
    have hx : x ∉ ss := of_decide_eq_false hfind.symm
    rw [if_neg hx] at h
    have hgw : ∀ (b : Bool) {s₁ : Shared} {Q' : Unit → Shared → Prop}, Q' () s₁ → wpAny (model prog w) A (match b with | true => rule "set.scan.the-table-gave-way" | false => pure ()) Q' E s₁ :=
      fun b s₁ Q' hq => by cases b <;> first | exact wpAny_pure hq | exact wpAny_rule hq
    have q1 := layNew_perm t es ((strKind prog w).hash (S x)) (.str (S x) tk)
    have q2 := layNew_fits t es ((strKind prog w).hash (S x)) (.str (S x) tk)
    have q3 := layNew_led t es ((strKind prog w).hash (S x)) (.str (S x) tk)
    generalize layNew t es ((strKind prog w).hash (S x)) (.str (S x) tk) = r at q1 q2 q3 ⊢
    obtain ⟨es1, t1, wd, gave⟩ := r
    dsimp only at q1 q2 q3 ⊢
    rw [Array.toList_push] at q1
    have el1 : ElemsOf (strKind prog w) es1.toList := (T.el.push (strKind_is _ _ _ _) rfl).perm q1
    obtain ⟨ts, s1, s2⟩ := sv_perm (q1.map (·.2)) (by rw [List.map_append]; exact T.sv.snoc x tk)
    have hz1 : es1.size ≤ 5000 := by
      have := q1.length_eq
      rw [Array.length_toList, List.length_append, Array.length_toList] at this
      simp at this; omega
    refine wpAny_bind (hgw _ ?_)
    have fin : ∀ {t2 : SetTable}, t2.fits es1.size = true → t2.led = !byT w → t2.plain = false → ∀ {g : Bool → Sem Unit}, (∀ (b : Bool) (s₁ : Shared) (Q' : Unit → Shared → Prop), Q' () s₁ → wpAny (model prog w) A (g b) Q' E s₁) → wpAny (model prog w) A (do
        storeSet a es1 t2
        if (!wd && t2.tooFull) = true then do
            g (relayAll t2 es1 (SetTable.grown es1.size)).2.2
            storeSet a (relayAll t2 es1 (SetTable.grown es1.size)).1 (relayAll t2 es1 (SetTable.grown es1.size)).2.1
            pure (some true)
          else pure (some true)) (fun r s' => ∃ b, r = some b ∧ Q b s') E s := fun f1 f2 f3 _ hg => add_tail hg he el1 s1 f1 f2 f3 hz1 fun h' ts' b1 hs hp => ⟨true, rfl, h true h' ts' b1 hs (hp.trans s2)⟩
    split
    · refine wpAny_bind ?_
      rw [hashByValue_scannable 8 rfl]
      refine wpAny_pure ?_
      refine wpAny_mono (fin (t2 := { t1 with plain := false }) (SetTable.fits_plain_off q2) (q3.1.trans T.led) rfl ?_) (fun r s' hr => ?_) fun _ _ e => e
      · intro b s₁ Q' hq; cases b <;> first | exact wpAny_pure hq | exact wpAny_rule hq
      · obtain ⟨b, rfl, hq⟩ := hr
        exact wpAny_pure hq
    · rename_i hpl
      refine wpAny_bind (wpAny_pure ?_)
      simp only [↓reduceIte]
      refine wpAny_mono (fin (t2 := t1) q2 (q3.1.trans T.led) (by simpa using hpl) ?_) (fun r s' hr => ?_) fun _ _ e => e
      · intro b s₁ Q' hq; cases b <;> first | exact wpAny_pure hq | exact wpAny_rule hq
      · obtain ⟨b, rfl, hq⟩ := hr
        exact wpAny_pure hq
end

section
variable {prog : Program} {w : World} {A : Around} {R : Result → Shared → Prop} {I Sa V : Addr} {fp wr : List Addr} {n : Nat} {St : Nat → Heap → Prop} {items : Array Value} {ws : List (List Nat)}
theorem SetIs.at {h h' : Heap} {a : Addr} {ss : List (List Nat)} (x : SetIs prog w h a ss) (k : ∀ o, h.get? a = some o → h'.get? a = some o) : SetIs prog w h' a ss := let ⟨es, ep, t, e, T⟩ := x; ⟨es, ep, t, k _ e, T⟩
theorem set_loop (W : Walks prog w A.in1 I fp wr n (fun i v => items[i]? = some v) St) (hSf : Sa ∉ fp) (hv : SV items.toList ws) (hn : n = ws.length) (hz : n < 900) :
    ∀ (k i : Nat) (s : Shared) (ss : List (List Nat)), n - i = k → i ≤ n → St i s.heap → SetIs prog w s.heap Sa ss → ss.Nodup → (∀ y, y ∈ ss ↔ y ∈ ws.take i) → ss.length ≤ i →
      (∀ h' tk ss', SetIs prog w h' Sa ss' → ss'.Nodup → (∀ y, y ∈ ss' ↔ y ∈ ws) → (∀ b o, b ≠ Sa → b ∉ wr → s.heap.get? b = some o → h'.get? b = some o) → R (.ok (.ret .none)) { s with heap := h', toks := tk }) →
      codeAny (model prog w) A (.builtin "set.update.loop" ⟨[.ref Sa, .ref I], []⟩) R s := by
  have hSw : Sa ∉ wr := fun h => hSf (W.sub _ h)
  intro k
  induction k with
  | zero =>
    intro i s ss hk hi hst hS hnd hmem hlen hR
    have hin : i = n := by omega
    refine codeAny_builtin PyProof.Rows.F.entry_set_update_loop ?_
    rw [Around.under_plainId PyProof.Rows.F.plain_set_update_loop _]
    show wpAny _ A.in1 (pyNext (.ref I) >>= _) _ _ s
    refine wpAny_bind (W.done s _ _ (hin ▸ hst) fun h' tk hk' => ?_)
    show wpAny _ A.in1 (ret Value.none) _ _ _
    exact wpAny_pure (hR h' tk ss (hS.at fun o e => hk' _ o hSw e) hnd (fun y => by rw [hmem, hin, hn, List.take_length]) fun b o _ hb e => hk' b o hb e)
  | succ k ih =>
    intro i s ss hk hi hst hS hnd hmem hlen hR
    have hlt : i < n := by omega
    refine codeAny_builtin PyProof.Rows.F.entry_set_update_loop ?_
    rw [Around.under_plainId PyProof.Rows.F.plain_set_update_loop _]
    show wpAny _ A.in1 (pyNext (.ref I) >>= _) _ _ s
    refine wpAny_bind (W.item i s _ _ hlt hst fun v h1 tk1 hP hst1 hk1 => ?_)
    obtain ⟨x, t, hx, rfl⟩ := hv.get (i := i) (v := v) (by simpa using hP)
    show wpAny _ A.in1 (holding [Value.str (S x) t] (setAdd Sa (.str (S x) t)) >>= _) _ _ _
    refine wpAny_bind (wpAny_holding (set_add (hS.at fun o e => hk1 _ o hSw e) (by omega) fun b h2 tk2 ss2 hsb hS2 hp => ?_))
    have hmem2 : ∀ y, y ∈ ss2 ↔ y ∈ ws.take (i + 1) := fun y => by
      rw [hp.mem_iff, List.take_add_one, hx]
      split
      · rename_i hxs
        rw [hmem]
        simp only [Option.toList_some, List.mem_append, List.mem_singleton]
        exact ⟨.inl, fun h => h.elim id fun e => e ▸ (hmem x).mp hxs⟩
      · simp only [List.mem_append, Option.toList_some, hmem]
    have hnd2 : ss2.Nodup := by
      rw [hp.nodup_iff]
      split
      · exact hnd
      · rename_i hxs
        rw [List.nodup_append]
        exact ⟨hnd, by simp, fun a ha b hb q => hxs (by rw [← List.mem_singleton.mp hb, ← q]; exact ha)⟩
    have hlen2 : ss2.length ≤ i + 1 := by
      rw [hp.length_eq]
      split
      · omega
      · simp; omega
    refine wpAny_pure ⟨plainId_quiet PyProof.Rows.F.plain_set_update_loop _, ih (i + 1) _ ss2 (by omega) hlt (W.frame _ _ _ hst1 fun b hb o e => ?_) hS2 hnd2 hmem2 hlen2 fun h3 tk3 ss3 a1 a2 a3 a4 => hR h3 tk3 ss3 a1 a2 a3 fun b o hb hbw e => ?_⟩
    · exact (hsb.2 b fun q => hSf (q ▸ hb)).trans e
    · exact a4 b o hb hbw ((hsb.2 b hb).trans (hk1 b o hbw e))
end
section
variable {prog : Program} {w : World} {A : Around} {s : Shared} {E : Value → Shared → Prop} {V : Addr} {items : Array Value} {ws : List (List Nat)}
/-- an empty set, made -/
theorem code_newset (a : Value) {Q₁ : Value → Shared → Prop} (h : Q₁ (.ref s.heap.objs.size) { s with heap := s.heap.push (setO #[] 0 (.fresh 0 0 (!byT w))) }) :
    codeAny (model prog w) A (.call (.builtin "set.__new__") ⟨[.type "set", a], []⟩) (wants Q₁ E) s := by
  refine codeAny_of_tree ?_
  show wpAny _ A.in1 (do checkBuiltinCall "set.__new__" ⟨[.type "set", a], []⟩; again (.builtin "set.__new__" ⟨[.type "set", a], []⟩)) _ _ s
  refine wpAny_bind (wpAny_of_eq (PySem.F.newCall_set_1 a) (wpAny_pure ⟨plainId_quiet PySem.F.plain_set_new _, codeAny_builtin PySem.F.entry_set_new ?_⟩))
  rw [Around.under_plainId PySem.F.plain_set_new _]
  unfold Builtin.«set.__new__» Builtin.Frozenset.newClass
  have hsub := sub_set_self
  obtain ⟨hp, g, d, tk, os⟩ := s
  dsimp only
  wp_walk
  refine wpAny_askSetting (wpAny_pure ?_)
  dsimp only
  simp only [newObj]
  refine wpAny_bind (wpAny_alloc (wpAny_pure ?_))
  exact wpAny_pure h
/-- set(xs) -/
theorem call_set_src {T : String} {oi : Obj} {StI : Addr → Nat → Heap → Prop} {Q : Value → Shared → Prop} (hh : A.handled = none) (hT : s.TypeIs (.ref V) T)
    (hs1 : isSubtype (.type T) (.type "set") = pure false) (hs2 : isSubtype (.type T) (.type "frozenset") = pure false) (hd : (Value.type T == Value.type "dict") = false)
    (hit : ∀ (A' : Around) (s₁ : Shared) (Q : Value → Shared → Prop) (E : Value → Shared → Prop), (∀ b o, s.heap.get? b = some o → s₁.heap.get? b = some o) → Q (.ref s₁.heap.objs.size) { s₁ with heap := s₁.heap.push oi } → wpAny (model prog w) A' (pyIter (.ref V)) Q E s₁)
    (W : ∀ (A' : Around) (I : Addr), A'.handled = none → V ≠ I → Walks prog w A' I [I, V] [I] items.size (fun i v => items[i]? = some v) (StI I))
    (h0 : ∀ (h : Heap) (I : Addr), (∀ b o, s.heap.get? b = some o → h.get? b = some o) → h.get? I = some oi → StI I 0 h) (hoi : oi.isFreed = false)
    (hv : SV items.toList ws) (hz : ws.length < 900)
    (h : ∀ a s' ss, s.heap.objs.size ≤ a → Ext [] s s' → SetIs prog w s'.heap a ss → ss.Nodup → (∀ y, y ∈ ss ↔ y ∈ ws) → Q (.ref a) s') :
    wpAny (model prog w) A (call (.type "set") [.ref V]) Q E s := by
  obtain ⟨c, tl, hmro⟩ := PySem.F.called_set.mro
  have hmade := PySem.F.called_set.made
  have hsub := PySem.F.called_set.sub
  refine wpAny_call (codeAny_of_tree ?_)
  show wpAny _ _ (callAny (.type "set") _) _ _ _
  refine wpAny_pure ⟨Code.quiet_builtin _ (by decide +kernel), codeAny_builtin PySem.F.entry_type_call ?_⟩
  rw [Around.under_plain (weight_type_call_type "set" [.ref V] []) rfl]
  have h1 := PySem.F.called_set.notType
  have h2 := PySem.F.called_set.canCreate
  have hct := PySem.F.typeCall_set_1 (.ref V)
  repeat (any_goals (first | assumption | wp_step))
  refine codeAny_mono (code_newset (.ref V) (E := E) (Q₁ := fun obj s₁ => obj = .ref s.heap.objs.size ∧ s₁ = { s with heap := s.heap.push (setO #[] 0 (.fresh 0 0 (!byT w))) }) ⟨rfl, rfl⟩) fun r s₁ hr => ?_
  cases r with
  | error e => exact hr
  | ok fl =>
    cases fl with
    | ret obj =>
      obtain ⟨rfl, rfl⟩ := hr
      have hS := Heap.get?_push_size (o := setO #[] 0 (.fresh 0 0 (!byT w))) s.heap rfl
      have hTs : Shared.TypeIs { s with heap := s.heap.push (setO #[] 0 (.fresh 0 0 (!byT w))) } (.ref s.heap.objs.size) "set" := ⟨_, hS, rfl⟩
      have kp : ∀ b o, s.heap.get? b = some o → (s.heap.push (setO #[] 0 (.fresh 0 0 (!byT w)))).get? b = some o := fun b o e => Heap.get?_push_of_some _ e
      have hli := PySem.F.called_set.init.lookup
      have hbi := PySem.F.called_set.init.bind (.ref s.heap.objs.size)
      repeat (any_goals (first | assumption | wp_step))
      refine codeAny_mono (codeAny_call_builtin (R := wants (fun r s₂ => r = .none ∧ Q (.ref s.heap.objs.size) s₂) E) PySem.F.called_set.init.plain PySem.F.entry_set_init (check_set_init_1 hTs ?_)) fun r₂ s₂ hr₂ => ?_
      · obtain ⟨ov, hov, hoc⟩ := id hT
        obtain ⟨ocls, odict, odata, oslots⟩ := ov
        simp only at hoc
        subst hoc
        have hov' := kp V _ hov
        unfold Builtin.«set.__init__» noKeywords Builtin.Frozenset.updateFrom
        generalize hPI : pyIter = PI
        wp_walk
        subst hPI
        refine hit _ { s with heap := s.heap.push (setO #[] 0 (.fresh 0 0 (!byT w))) } _ _ kp ?_
        refine wpAny_bind (wpAny_runValue ?_)
        have hVlt : V < s.heap.objs.size := Heap.lt_size hov
        have hz2 : (s.heap.push (setO #[] 0 (.fresh 0 0 (!byT w)))).objs.size = s.heap.objs.size + 1 := Heap.size_push ..
        have kp2 : ∀ b o, s.heap.get? b = some o → ((s.heap.push (setO #[] 0 (.fresh 0 0 (!byT w)))).push oi).get? b = some o := fun b o e => Heap.get?_push_of_some _ (kp b o e)
        have hI : ((s.heap.push (setO #[] 0 (.fresh 0 0 (!byT w)))).push oi).get? (s.heap.push (setO #[] 0 (.fresh 0 0 (!byT w)))).objs.size = some oi := Heap.get?_push_size _ hoi
        have hVI : V ≠ (s.heap.push (setO #[] 0 (.fresh 0 0 (!byT w)))).objs.size := by rw [hz2]; exact Nat.ne_of_lt (Nat.lt_succ_of_lt hVlt)
        have hzi : items.size = ws.length := by rw [← Array.length_toList]; exact hv.len
        refine set_loop (prog := prog) (w := w) (A := A.in1.in1) (I := (s.heap.push (setO #[] 0 (.fresh 0 0 (!byT w)))).objs.size) (Sa := s.heap.objs.size) (W A.in1.in1.in1 _ (by simp [hh]) hVI) ?_ hv hzi (by omega) (items.size - 0) 0
          { s with heap := (s.heap.push (setO #[] 0 (.fresh 0 0 (!byT w)))).push oi } [] (by omega) (Nat.zero_le _) (h0 _ _ kp2 hI) ?_ List.nodup_nil (by simp) (by simp) fun h' tk ss' a1 a2 a3 a4 => ?_
        · rw [hz2]; simp only [List.mem_cons, List.not_mem_nil, or_false, not_or]
          exact ⟨Nat.ne_of_lt (Nat.lt_succ_self _), Nat.ne_of_gt hVlt⟩
        · exact ⟨#[], 0, _, Heap.get?_push_of_some _ hS, (fun e he => by simp at he), .nil, rfl, rfl, fun _ => rfl⟩
        · show wpAny _ _ _ _ _ _
          refine wpAny_pure ?_
          show wpAny _ _ (ret Value.none) _ _ _
          refine wpAny_pure ⟨rfl, h _ _ ss' (Nat.le_refl _) (Ext.heap fun b o _ e => a4 b o (Nat.ne_of_lt (Heap.lt_size e)) ?_ (kp2 b o e)) a1 a2 a3⟩
          rw [hz2, List.mem_singleton]
          exact Nat.ne_of_lt (Nat.lt_succ_of_lt (Heap.lt_size e))
      · cases r₂ with
        | error e => exact hr₂
        | ok fl₂ =>
          cases fl₂ with
          | ret r =>
            obtain ⟨rfl, hq⟩ := hr₂
            repeat (any_goals (first | assumption | wp_step))
          | _ => exact hr₂.elim
    | _ => exact hr.elim
theorem sub_tuple_set : isSubtype (.type "tuple") (.type "set") = pure false := by rw [isSubtype_type]; kernel_rfl
theorem sub_tuple_frozen : isSubtype (.type "tuple") (.type "frozenset") = pure false := by rw [isSubtype_type]; kernel_rfl
theorem set_list {Q : Value → Shared → Prop} (hh : A.handled = none) (hl : s.heap.IsList V items) (hv : SV items.toList ws) (hz : ws.length < 900)
    (h : ∀ a s' ss, s.heap.objs.size ≤ a → Ext [] s s' → SetIs prog w s'.heap a ss → ss.Nodup → (∀ y, y ∈ ss ↔ y ∈ ws) → Q (.ref a) s') :
    wpAny (model prog w) A (call (.type "set") [.ref V]) Q E s :=
  call_set_src (oi := liO V 0) (StI := fun I i h => h.IsListIter I V i ∧ h.IsList V items) hh hl.typeIs PySem.F.sub_list_set PySem.F.sub_list_frozenset (by decide) (fun A' s₁ Q E k hq => wpAny_pyIter_list (hl.at fun o e => k _ o e) hq)
    (fun A' I hA hne => Walks.list hA I V hne items) (fun h I k e => ⟨⟨_, e, rfl, rfl⟩, hl.at fun o e => k _ o e⟩) rfl hv hz h
theorem set_tuple {Q : Value → Shared → Prop} (hh : A.handled = none) (hl : s.heap.IsTuple V items) (hv : SV items.toList ws) (hz : ws.length < 900)
    (h : ∀ a s' ss, s.heap.objs.size ≤ a → Ext [] s s' → SetIs prog w s'.heap a ss → ss.Nodup → (∀ y, y ∈ ss ↔ y ∈ ws) → Q (.ref a) s') :
    wpAny (model prog w) A (call (.type "set") [.ref V]) Q E s :=
  call_set_src (oi := { cls := .type "tuple_iterator", data := .fields #[.ref V, .int 0 0] }) (StI := fun I i h => h.IsTupleIter I V i ∧ h.IsTuple V items) hh (let ⟨o, e, c, _⟩ := hl; ⟨o, e, c⟩) sub_tuple_set sub_tuple_frozen (by decide) (fun A' s₁ Q E k hq => wpAny_pyIter_tuple (hl.at fun o e => k _ o e) hq)
    (fun A' I hA hne => Walks.tuple hA I V hne items) (fun h I k e => ⟨⟨_, e, rfl, rfl⟩, hl.at fun o e => k _ o e⟩) rfl hv hz h
end

theorem slot_setiter_next : Slot "set_iterator" "__next__" "set_iterator.__next__" :=
  .of (owner := "set_iterator") (n := "__next__") (by rw [typeLookup_type, builtinLookup_eq_fast]; kernel_rfl) (by decide +kernel) (by decide +kernel) (by decide +kernel)
    (by first | exact .inl (by decide +kernel) | exact .inr (by decide +kernel)) (by rw [isSubtype_type]; kernel_rfl)
theorem entry_setiter_next : entryFor table "set_iterator.__next__" = some Builtin.«set_iterator.__next__» := entryFor_of_fast (by kernel_rfl)
theorem args_setiter_next (a : Value) : argsOk "set_iterator.__next__" ⟨[a], []⟩ := by unfold argsOk; kernel_rfl
theorem entry_set_iter : entryFor table "set.__iter__" = some Builtin.«frozenset.__iter__» := entryFor_alias (id' := "frozenset.__iter__") (by kernel_rfl) rfl (by decide +kernel) (by kernel_rfl)
theorem perm_at {α : Type} : ∀ (l : List α) (i : Nat) (h : i < l.length), (l[i] :: l.eraseIdx i).Perm l
  | [], i, h => absurd h (Nat.not_lt_zero _)
  | x :: r, 0, _ => .refl _
  | x :: r, i + 1, h => by
    have h' : i < r.length := by simpa using h
    rw [List.getElem_cons_succ, List.eraseIdx_cons_succ]
    exact (List.Perm.swap _ _ _).trans ((perm_at r i h').cons x)
section
variable {M : Model} {prog : Program} {w : World} {A : Around} {s : Shared} {E : Value → Shared → Prop}
theorem wpAny_choose {src : Source} {n : Nat} {Q : Nat → Shared → Prop} (hn : n ≠ 0) (h : ∀ i d, i < n → Q i { s with drawn := d }) : wpAny M A (choose src n) Q E s :=
  fun _ _ _ => ⟨hn, h _ _ (Nat.mod_lt _ (Nat.pos_of_ne_zero hn))⟩
theorem drawOrder_perm {α : Type} : ∀ (n : Nat) (xs : List α) (s : Shared) {Q : List α → Shared → Prop}, xs.length = n → (∀ ys d, ys.Perm xs → Q ys { s with drawn := d }) → wpAny M A (drawOrder n xs) Q E s
  | 0, xs, s, Q, hx, h => by
    have : xs = [] := List.eq_nil_of_length_eq_zero hx
    subst this
    unfold drawOrder
    exact wpAny_pure (h [] s.drawn (.refl _))
  | n + 1, [], s, Q, hx, h => by simp at hx
  | n + 1, x :: r, s, Q, hx, h => by
    unfold drawOrder
    refine wpAny_bind (wpAny_choose (n := (x :: r).length) (by simp) fun i d hi => ?_)
    rw [List.getElem?_eq_getElem hi]
    dsimp only
    refine wpAny_bind (drawOrder_perm n _ _ (by rw [List.length_eraseIdx, if_pos hi]; simp at hx ⊢; omega) fun ys d' hp => wpAny_pure (h _ d' ?_))
    exact (hp.cons _).trans (perm_at _ _ hi)
end
theorem pick_perm {α : Type} (next : Nat → Nat) (xs : Array α) : (pickOrder next xs).toList.Perm xs.toList := by
  have key : ∀ (fuel k : Nat) (left : List α) (out : Array α), left.length = fuel → (pickOrder.go next fuel k left out).toList.Perm (out.toList ++ left) := by
    intro fuel
    induction fuel with
    | zero =>
      intro k left out hl
      have : left = [] := List.eq_nil_of_length_eq_zero hl
      subst this
      unfold pickOrder.go
      simp
    | succ f ih =>
      intro k left out hl
      unfold pickOrder.go
      have hi : next k % left.length < left.length := Nat.mod_lt _ (by omega)
      rw [List.getElem?_eq_getElem hi]
      dsimp only
      refine (ih _ _ _ (by rw [List.length_eraseIdx, if_pos hi]; omega)).trans ?_
      rw [Array.toList_push, List.append_assoc, List.singleton_append]
      exact (perm_at _ _ hi).append_left _
  have := key xs.size 0 xs.toList #[] (by simp)
  simpa [pickOrder] using this
def setItO (first : Value) (i : Nat) (a : Addr) (n ep : Nat) : Obj := { cls := .type "set_iterator", data := .fields #[first, .int i 0, .ref a, .int n 0, .int ep 0] }
def Mode (w : World) (h : Heap) (a : Addr) (i : Nat) (vs : List Value) (es : Array (Int × Value)) (ep : Nat) (t : SetTable) (first : Value) : Prop :=
  (byT w = true ∧ (∃ k : Nat, first = .int k 0) ∧ vs = (pickOrder (w.params.setOrder a ep) es).toList.map (·.2)) ∨
  (byT w = false ∧ ∃ (P : Addr) (qs : List Nat), first = .ref P ∧ h.get? P = some (seqObj "tuple" (qs.map fun q : Nat => Value.int q 0).toArray 0) ∧ qs.Perm (List.range es.size) ∧ vs = qs.filterMap fun q => es[q]?.map (·.2)) ∨
  (byT w = false ∧ es.size ≤ 1 ∧ vs = es.toList.map (·.2) ∧ ((first = .int 0 0 ∧ i = 0) ∨ ∃ j : Nat, first = .int (j + 1) 0 ∧ t.place = #[j] ∧ i = 1))
def SetItAt (prog : Program) (w : World) (h : Heap) (a I : Addr) (i : Nat) (vs : List Value) : Prop := ∃ es ep t ss first, h.get? a = some (setO es ep t) ∧ SetT prog w es t ss ∧ h.get? I = some (setItO first i a es.size ep) ∧ Mode w h a i vs es ep t first
section
variable {prog : Program} {w : World} {A : Around} {s : Shared} {E : Value → Shared → Prop} {a I : Addr} {ss : List (List Nat)}
theorem set_iter {Q : Value → Shared → Prop} (hS : SetIs prog w s.heap a ss) (hz : ss.length < 1000) (h : ∀ I s' vs, s.heap.objs.size ≤ I → Ext [1] s s' → (∀ o, s.heap.get? 1 = some o → s'.heap.get? 1 = some o) → SetItAt prog w s'.heap a I 0 vs → (∃ ts, SV vs ts ∧ ts.Perm ss) → Q (.ref I) s') :
    wpAny (model prog w) A (pyIter (.ref a)) Q E s := by
  obtain ⟨es, ep, t, he, T⟩ := hS
  have hT : s.TypeIs (.ref a) "set" := ⟨_, he, rfl⟩
  refine wpAny_pyIter_slot hT PySem.F.slot_set_iter (wpAny_call_entry PySem.F.slot_set_iter hT entry_set_iter ?_ (PySem.F.args_set_iter_1 _))
  unfold Builtin.«frozenset.__iter__» Builtin.Frozenset.slot0
  show wpAny _ _ (Builtin.Frozenset.sizeOf a >>= _) _ _ _
  unfold Builtin.Frozenset.sizeOf
  refine wpAny_bind (wpAny_bind (wpAny_setEntries_of he rfl T.fits (wpAny_pure ?_)))
  unfold setDrawn
  refine wpAny_bind (wpAny_bind (wpAny_setState_of he rfl T.fits ?_))
  unfold setsByText
  refine wpAny_bind (wpAny_bind (wpAny_askSetting (wpAny_pure (wpAny_pure ?_))))
  have endI : ∀ (s1 : Shared) (first : Value), (∀ b o, s.heap.get? b = some o → s1.heap.get? b = some o) → Ext [1] s s1 → s.heap.objs.size ≤ s1.heap.objs.size → (∃ vs, Mode w (s1.heap.push (setItO first 0 a es.size ep)) a 0 vs es ep t first ∧ ∃ ts, SV vs ts ∧ ts.Perm ss) →
      wpAny (model prog w) A.in1 (do let e ← setEpoch a; let v ← newFields "set_iterator" [first, rawInt 0, Value.ref a, rawInt es.size, rawInt e]; ret v)
        (fun fin s' => ∃ v, fin = Fin.done (Flow.ret v) ∧ ∃ T' r, s'.TypeIs v T' ∧ typeLookup (Value.type T') (Str.ofString "__next__") = pure (some r) ∧ Q v s') E s1 := by
    intro s1 first kp X hsz ⟨vs, hM, hts⟩
    refine wpAny_bind (wpAny_setEpoch_of (kp _ _ he) rfl T.fits ?_)
    refine wpAny_bind (wpAny_newObj_type (wpAny_pure ⟨_, rfl, "set_iterator", _, ⟨_, Heap.get?_push_size _ rfl, rfl⟩, slot_setiter_next.lookup, ?_⟩))
    refine h _ _ vs hsz (X.trans ((Ext.heap (s := s1) (tk := s1.toks) fun b o _ e => Heap.get?_push_of_some _ e).mono (by simp))) (fun o e => Heap.get?_push_of_some _ (kp 1 o e)) ⟨es, ep, t, ss, first, Heap.get?_push_of_some _ (kp _ _ he), T, Heap.get?_push_size _ rfl, hM⟩ hts
  show wpAny _ _ (if (!byT w && (!t.plain && decide (es.size > 1))) = true then _ else _) _ _ _
  have hall : ∃ ts, SV (es.toList.map (·.2)) ts ∧ ts.Perm ss := ⟨ss, T.sv, .refl _⟩
  split
  · rename_i hc
    simp only [Bool.and_eq_true, Bool.not_eq_true', decide_eq_true_eq] at hc
    refine wpAny_bind (drawOrder_perm es.size _ _ (by simp) fun qs d hp => ?_)
    have hql : qs.length = es.size := by rw [hp.length_eq, List.length_range]
    refine wpAny_bind (wpAny_newTuple ?_ (by rw [sizeLine_eq, List.length_map, hql]; have := T.size; omega))
    refine endI _ (.ref s.heap.objs.size) (fun b o e => Heap.get?_push_of_some _ e) ⟨fun b o _ e => Heap.get?_push_of_some _ e, rfl, fun _ _ e => e, id, fun b o e _ => ⟨o.slots, Heap.get?_push_of_some _ e⟩⟩ (by show _ ≤ (s.heap.push _).objs.size; rw [Heap.size_push]; exact Nat.le_succ _) ⟨_, .inr (.inl ⟨hc.1, _, qs, rfl, Heap.get?_push_of_some _ (Heap.get?_push_size _ rfl), hp, rfl⟩), ?_⟩
    have hpv : (qs.filterMap fun q => es[q]?.map (·.2)).Perm (es.toList.map (·.2)) := by
      refine (hp.filterMap _).trans ?_
      have := congrArg (List.map (fun e : Int × Value => e.2)) (filterMap_getElem?_range es)
      rw [List.map_filterMap] at this
      rw [← this]
    exact sv_perm hpv T.sv
  · rename_i hc
    simp only [Bool.and_eq_true, Bool.not_eq_true', decide_eq_true_eq, not_and] at hc
    refine wpAny_bind (wpAny_pure ?_)
    refine endI s (rawInt 0) (fun _ _ e => e) (Ext.refl _ _) (Nat.le_refl _) ?_
    cases hb : byT w with
    | true => exact ⟨_, .inl ⟨hb, ⟨0, rfl⟩, rfl⟩, sv_perm ((pick_perm _ es).map _) T.sv⟩
    | false =>
      refine ⟨_, .inr (.inr ⟨hb, ?_, rfl, .inl ⟨rfl, rfl⟩⟩), hall⟩
      cases hp : t.plain with
      | true => rw [T.plain hp]; omega
      | false => have := hc hb hp; omega
theorem extI {h' : Heap} {tk : Nat} {o : Obj} (hI : s.heap.get? I = some o) (hd : ∀ es ep, o.data ≠ .dict es ep) (hk : ∀ b o, b ≠ I → s.heap.get? b = some o → h'.get? b = some o) : Ext [I] s { s with heap := h', toks := tk } :=
  (Ext.refl [I] s).but (W := [I]) (fun b o hb e => hk b o (by simpa using hb) e) (fun b hb => by
    rw [List.mem_singleton.mp hb]
    exact .inl ⟨by simp, fun o' e es ep q => by rw [hI] at e; cases e; exact hd es ep q⟩)
/-- the end, told to who asked -/
theorem stop_here {α : Type} {Q : Option Value → Shared → Prop} {QQ : α → Shared → Prop} (hh : A.handled = none) (h : ∀ h', (∀ b o, s.heap.get? b = some o → h'.get? b = some o) → Q none { s with heap := h' }) :
    wpAny (model prog w) A.in1 (do raiseNew (← newExc (.type "StopIteration") []) : Sem α) QQ (fun e s' => wpAny (model prog w) A (do
          let __do_lift ← isInstance e (Value.type "StopIteration")
          if __do_lift = true then pure none else throw e) Q E s') s := by
  refine stop_new (A := A.in1) hh fun h' e hm => ?_
  obtain ⟨t, he, _, _⟩ := hm.there
  refine wpAny_bind (wpAny_isInstance (T := "StopIteration") (b := true) ⟨_, he, rfl⟩ isSubtype_stop ?_)
  rw [if_pos rfl]
  exact wpAny_pure (h h' fun b o e => hm.keeps b o e)
theorem drawn_at (es : Array (Int × Value)) (i : Nat) : ∀ (qs : List Nat), (∀ q ∈ qs, q < es.size) → (qs.filterMap fun q => es[q]?.map (·.2))[i]? = qs[i]?.bind fun q => es[q]?.map (·.2) := by
  induction i with
  | zero =>
    intro qs hq
    cases qs with
    | nil => rfl
    | cons q r =>
      have := hq q (.head _)
      rw [List.filterMap_cons_some (b := es[q].2) (by simp [this])]
      simp [this]
  | succ i ih =>
    intro qs hq
    cases qs with
    | nil => rfl
    | cons q r =>
      have := hq q (.head _)
      rw [List.filterMap_cons_some (b := es[q].2) (by simp [this])]
      rw [List.getElem?_cons_succ, List.getElem?_cons_succ]
      exact ih r fun p hp => hq p (.tail _ hp)
theorem below_0 (j : Nat) : SetTable.below #[j] 0 = 0 := by
  unfold SetTable.below
  simp [SetTable.below.go]
theorem below_s (j : Nat) : SetTable.below #[j] (j + 1) = 1 := by
  unfold SetTable.below
  simp [SetTable.below.go]
theorem below_n (j : Nat) : SetTable.below #[] j = 0 := by
  unfold SetTable.below
  simp [SetTable.below.go]
theorem set_next {vs : List Value} {i : Nat} {Q : Option Value → Shared → Prop} (hh : A.handled = none) (hS : SetItAt prog w s.heap a I i vs)
    (h1 : ∀ v s', vs[i]? = some v → Ext [I] s s' → SetItAt prog w s'.heap a I (i + 1) vs → Q (some v) s') (h2 : ∀ s', vs[i]? = none → Ext [I] s s' → Q none s') :
    wpAny (model prog w) A (pyNext (.ref I)) Q E s := by
  obtain ⟨es, ep, t, ss, first, he, T, hI, hM⟩ := hS
  have hT : s.TypeIs (.ref I) "set_iterator" := ⟨_, hI, rfl⟩
  have hIa : I ≠ a := fun q => by rw [q, he] at hI; exact nomatch (congrArg Obj.data (Option.some.inj hI))
  unfold pyNext
  refine wpAny_bind (wpAny_attempt (wpAny_callSpecial?_slot (name := Str.ofString "__next__") hT slot_setiter_next (wpAny_call_entry slot_setiter_next hT entry_setiter_next ?_ (args_setiter_next _))))
  unfold Builtin.«set_iterator.__next__»
  show wpAny _ A.in1 (fieldsOf (.ref I) >>= _) _ _ s
  refine wpAny_bind (wpAny_fieldsOf hI rfl ?_)
  dsimp only
  refine wpAny_bind (wpAny_setEntries_of he rfl T.fits ?_)
  rw [if_neg (by simp)]
  have upd1 : ∀ {h : Heap} {f : Value} {k : Nat} (g : Array Value → Array Value), h.get? I = some (setItO f k a es.size ep) → (h.update I (Obj.mapFields g)).get? I = some { setItO f k a es.size ep with data := .fields (g #[f, .int k 0, .ref a, .int es.size 0, .int ep 0]) } := fun g e => Heap.get?_update_self (Obj.mapFields g) e rfl
  rcases hM with ⟨hb, ⟨k, rfl⟩, hvs⟩ | ⟨hb, P, qs, rfl, hP, hp, hvs⟩ | ⟨hb, hz, hvs, hM⟩
  · dsimp only
    unfold setNext
    refine wpAny_bind (wpAny_bind (wpAny_setState_of he rfl T.fits ?_))
    unfold setsByText
    refine wpAny_bind (wpAny_bind (wpAny_askSetting (wpAny_pure ?_)))
    refine wpAny_ite_split (fun _ => ?_) (fun hn => absurd hb hn)
    dsimp only
    refine wpAny_ite_split (fun hn => absurd hn (by simp)) (fun _ => ?_)
    unfold setWalk
    refine wpAny_bind (wpAny_bind (wpAny_setState_of he rfl T.fits ?_))
    unfold setsByText
    refine wpAny_bind (wpAny_bind (wpAny_askSetting (wpAny_pure ?_)))
    refine wpAny_ite_split (fun _ => ?_) (fun hn => absurd hb hn)
    refine wpAny_bind (wpAny_askSetting (wpAny_pure (wpAny_pure ?_)))
    simp only [Int.toNat_natCast]
    have hvi : vs[i]? = ((pickOrder (w.params.setOrder a ep) es)[i]?).map (·.2) := by rw [hvs]; simp
    show wpAny _ _ (match Option.map (fun e : Int × Value => (e.snd, k)) ((pickOrder (w.params.setOrder a ep) es)[i]?) with | some (x, next) => _ | none => _) _ _ _
    cases hpi : (pickOrder (w.params.setOrder a ep) es)[i]? with
    | none =>
      rw [hpi] at hvi
      simp only [Option.map_none]
      refine wpAny_bind (wpAny_setField hI rfl (by simp) ?_)
      refine stop_here hh fun h' hk => h2 _ hvi (extI (tk := s.toks) hI (fun _ _ q => nomatch q) fun b o hb' e => hk b o ((Heap.get?_update_other _ _ (Ne.symm hb')).trans e))
    | some y =>
      rw [hpi] at hvi
      simp only [Option.map_some]
      refine wpAny_bind (wpAny_setField hI rfl (by simp) ?_)
      have e1 := upd1 (·.setIfInBounds 0 (rawInt k)) hI
      refine wpAny_bind (wpAny_setField e1 rfl (by simp) ?_)
      have e2 := Heap.get?_update_self (Obj.mapFields (·.setIfInBounds 1 (rawInt ((i : Nat) + 1 : Int)))) e1 rfl
      have hk : ∀ b o, b ≠ I → s.heap.get? b = some o → ((s.heap.update I (Obj.mapFields (·.setIfInBounds 0 (rawInt k)))).update I (Obj.mapFields (·.setIfInBounds 1 (rawInt ((i : Nat) + 1 : Int))))).get? b = some o := fun b o hb' e => (Heap.get?_update_other _ _ (Ne.symm hb')).trans ((Heap.get?_update_other _ _ (Ne.symm hb')).trans e)
      refine wpAny_pure ⟨_, rfl, wpAny_pure (h1 _ _ hvi (extI (tk := s.toks) hI (fun _ _ q => nomatch q) hk) ⟨es, ep, t, ss, .int k 0, hk a _ (Ne.symm hIa) he, T, ?_, .inl ⟨hb, ⟨k, rfl⟩, hvs⟩⟩)⟩
      rw [e2]; rfl
  · have hql : ∀ q ∈ qs, q < es.size := fun q hq => List.mem_range.mp (hp.mem_iff.mp hq)
    have hvi := drawn_at es i qs hql
    rw [← hvs] at hvi
    dsimp only
    refine wpAny_bind (wpAny_seqItems hP rfl ?_)
    simp only [Int.toNat_natCast]
    have hpl : ((qs.map fun q : Nat => Value.int q 0).toArray)[i]? = (qs[i]?).map fun q : Nat => Value.int q 0 := by simp
    rw [hpl]
    cases hqi : qs[i]? with
    | none =>
      rw [hqi] at hvi
      simp only [Option.map_none]
      refine wpAny_bind (wpAny_setField hI rfl (by simp) ?_)
      have e1 := upd1 (·.setIfInBounds 0 (rawInt 0)) hI
      refine wpAny_bind (wpAny_setField e1 rfl (by simp) ?_)
      exact stop_here hh fun h' hk => h2 _ hvi (extI (tk := s.toks) hI (fun _ _ q => nomatch q) fun b o hb' e => hk b o ((Heap.get?_update_other _ _ (Ne.symm hb')).trans ((Heap.get?_update_other _ _ (Ne.symm hb')).trans e)))
    | some q =>
      rw [hqi] at hvi
      have hq := hql q (List.mem_of_getElem? hqi)
      have heq : es[q]? = some es[q] := by simp [hq]
      simp only [Option.map_some]
      unfold setNextDrawn
      refine wpAny_bind (wpAny_bind (wpAny_setState_of he rfl T.fits ?_))
      dsimp only
      refine wpAny_ite_split (fun hn => absurd hn (by simp)) (fun _ => ?_)
      simp only [Int.toNat_natCast]
      rw [heq]
      simp only [Option.bind_some, heq, Option.map_some] at hvi
      refine wpAny_pure ?_
      refine wpAny_bind (wpAny_setField hI rfl (by simp) ?_)
      have e1 := upd1 (·.setIfInBounds 1 (rawInt ((i : Nat) + 1 : Int))) hI
      have hk : ∀ b o, b ≠ I → s.heap.get? b = some o → (s.heap.update I (Obj.mapFields (·.setIfInBounds 1 (rawInt ((i : Nat) + 1 : Int))))).get? b = some o := fun b o hb' e => (Heap.get?_update_other _ _ (Ne.symm hb')).trans e
      have hPI : P ≠ I := fun q => by rw [q, hI] at hP; exact nomatch (congrArg Obj.data (Option.some.inj hP))
      refine wpAny_pure ⟨_, rfl, wpAny_pure (h1 _ _ hvi (extI (tk := s.toks) hI (fun _ _ q => nomatch q) hk) ⟨es, ep, t, ss, .ref P, hk a _ (Ne.symm hIa) he, T, ?_, .inr (.inl ⟨hb, P, qs, rfl, hk P _ hPI hP, hp, hvs⟩)⟩)⟩
      rw [e1]; rfl
  · have hled : t.led = true := by rw [T.led, hb]; rfl
    have hz0 : es.size = t.place.size := by
      have := T.fits
      simp only [SetTable.fits, Bool.and_eq_true, beq_iff_eq] at this
      exact this.1.symm
    have fin : ∀ (k : Nat) (s1 : Shared), s1 = s → first = .int k 0 → ((∃ e0 j, es[SetTable.below t.place k]? = some e0 ∧ t.place[SetTable.below t.place k]? = some j ∧ vs[i]? = some e0.2 ∧ t.place = #[j] ∧ i = 0) ∨ (es[SetTable.below t.place k]? = none ∧ vs[i]? = none)) →
        wpAny (model prog w) A.in1 (do
          let r ← setNext a k i ep
          match r with
          | some (x, next) => do
            setField (Value.ref I) 0 (rawInt next)
            setField (Value.ref I) 1 (rawInt ((i : Nat) + 1 : Int))
            ret x
          | none => do
            setField (Value.ref I) 2 Value.none
            raiseNew (← newExc (Value.type "StopIteration") [])) (fun fin s' => ∃ v, fin = Fin.done (Flow.ret v) ∧ wpAny (model prog w) A (pure (some v)) Q E s')
          (fun e s' => wpAny (model prog w) A (do
              let __do_lift ← isInstance e (Value.type "StopIteration")
              if __do_lift = true then pure none else throw e) Q E s') s := fun k s1 _ hk1 hk => by
      subst hk1
      unfold setNext
      refine wpAny_bind (wpAny_bind (wpAny_setState_of he rfl T.fits ?_))
      unfold setsByText
      refine wpAny_bind (wpAny_bind (wpAny_askSetting (wpAny_pure ?_)))
      refine wpAny_ite_split (fun hn => absurd (show byT w = true from hn) (by rw [hb]; decide)) (fun _ => ?_)
      dsimp only
      refine wpAny_ite_split (fun hn => absurd (show (!t.plain && decide (es.size > 1)) = true from hn) (by simp; omega)) (fun _ => ?_)
      show wpAny _ _ ((if (!t.led && !es.isEmpty) = true then unsupported "set:maker-not-led" else pure ()) >>= _) _ _ _
      refine wpAny_bind (wpAny_ite_split (fun hn => absurd hn (by rw [hled]; simp)) (fun _ => wpAny_pure ?_))
      refine wpAny_pure ?_
      rcases hk with ⟨⟨hh0, x⟩, j, e, e', hv, hpl, rfl⟩ | ⟨e, hv⟩
      · rw [e, e']
        dsimp only
        refine wpAny_bind (wpAny_setField hI rfl (by simp) ?_)
        have e1 := upd1 (·.setIfInBounds 0 (rawInt ((j + 1 : Nat) : Int))) hI
        refine wpAny_bind (wpAny_setField e1 rfl (by simp) ?_)
        have e2 := Heap.get?_update_self (Obj.mapFields (·.setIfInBounds 1 (rawInt (((0 : Nat) : Int) + 1)))) e1 rfl
        have hk : ∀ b o, b ≠ I → s.heap.get? b = some o → ((s.heap.update I (Obj.mapFields (·.setIfInBounds 0 (rawInt ((j + 1 : Nat) : Int))))).update I (Obj.mapFields (·.setIfInBounds 1 (rawInt (((0 : Nat) : Int) + 1))))).get? b = some o := fun b o hb' e => (Heap.get?_update_other _ _ (Ne.symm hb')).trans ((Heap.get?_update_other _ _ (Ne.symm hb')).trans e)
        refine wpAny_pure ⟨_, rfl, wpAny_pure (h1 _ _ hv (extI (tk := s.toks) hI (fun _ _ q => nomatch q) hk) ⟨es, ep, t, ss, .int (j + 1) 0, hk a _ (Ne.symm hIa) he, T, ?_, .inr (.inr ⟨hb, hz, hvs, .inr ⟨j, rfl, hpl, rfl⟩⟩)⟩)⟩
        rw [e2]; rfl
      · rw [e]
        dsimp only
        refine wpAny_bind (wpAny_setField hI rfl (by simp) ?_)
        refine stop_here hh fun h' hk => h2 _ hv (extI (tk := s.toks) hI (fun _ _ q => nomatch q) fun b o hb' e => hk b o ((Heap.get?_update_other _ _ (Ne.symm hb')).trans e))
    rcases hM with ⟨rfl, rfl⟩ | ⟨j, rfl, hpl, rfl⟩
    · refine fin 0 s rfl rfl ?_
      rcases Nat.lt_or_ge 0 es.size with h0 | h0
      · obtain ⟨j, hj⟩ : ∃ j, t.place = #[j] := by
          have h1 : t.place.size = 1 := by omega
          exact Array.size_eq_one_iff.mp h1
        obtain ⟨e0, he0⟩ : ∃ e0, es[0]? = some e0 := ⟨es[0], by simp [h0]⟩
        refine .inl ⟨e0, j, ?_, ?_, ?_, hj, rfl⟩
        · rw [hj, below_0, he0]
        · rw [hj, below_0]; rfl
        · rw [hvs]; simp [he0]
      · have h1 : es = #[] := Array.eq_empty_of_size_eq_zero (by omega)
        have h2' : t.place = #[] := Array.eq_empty_of_size_eq_zero (by omega)
        refine .inr ⟨?_, ?_⟩
        · rw [h2', h1]; simp
        · rw [hvs, h1]; rfl
    · have h1' : es.size = 1 := by rw [hz0, hpl]; rfl
      refine fin (j + 1) s rfl rfl (.inr ⟨?_, ?_⟩)
      · rw [hpl, below_s]
        simp [h1']
      · rw [hvs]; simp [h1']
end

theorem split_set_len : splitId "set.__len__" = some ("set", "__len__") := by kernel_rfl
section
variable {prog : Program} {w : World} {A : Around} {s : Shared} {E : Value → Shared → Prop} {a I L : Addr} {ss : List (List Nat)}
theorem SetItAt.keep {h h' : Heap} {i : Nat} {vs : List Value} {xs : Array Value} {c : Nat} (x : SetItAt prog w h a I i vs) (hL : h.get? L = some (lsO xs c)) (hLI : L ≠ I) (hLa : L ≠ a) (k : ∀ b o, b ≠ L → h.get? b = some o → h'.get? b = some o) : SetItAt prog w h' a I i vs := by
  obtain ⟨es, ep, t, ss, first, q1, q2, q3, q4⟩ := x
  refine ⟨es, ep, t, ss, first, k _ _ (Ne.symm hLa) q1, q2, k _ _ (Ne.symm hLI) q3, ?_⟩
  rcases q4 with q | ⟨m1, P, qs, m2, m3, m4⟩ | q
  · exact .inl q
  · exact .inr (.inl ⟨m1, P, qs, m2, k _ _ (fun q => by rw [q, hL] at m3; exact absurd (congrArg Obj.cls (Option.some.inj m3)) (by show ¬ (Value.type "list" = Value.type "tuple"); decide)) m3, m4⟩)
  · exact .inr (.inr q)
/-- drawing a set's iterator into a list -/
theorem feed_set {R : Result → Shared → Prop} (hh : A.handled = none) {vs : List Value} (hz : vs.length ≤ 1000) (hLI : L ≠ I) (hLa : L ≠ a) (h1L : 1 ≠ L) (h1I : 1 ≠ I) (fin : ∀ s' c, s'.heap.get? L = some (lsO vs.toArray c) → Ext [1, L, I] s s' → (∀ o, s.heap.get? 1 = some o → s'.heap.get? 1 = some o) → R (.ok (.ret (.ref L))) s') :
    ∀ (k i : Nat) (s' : Shared) (c : Nat), i + k = vs.length → Ext [1, L, I] s s' → (∀ o, s.heap.get? 1 = some o → s'.heap.get? 1 = some o) → SetItAt prog w s'.heap a I i vs → s'.heap.get? L = some (lsO (vs.take i).toArray c) → Feed prog w A I L R (.ref L) (k + 1) (vs.take i).toArray s' := by
  intro k
  induction k with
  | zero =>
    intro i s' c hi X K1 hS hL
    refine set_next hh hS (fun v s2 hv X2 hS2 => ?_) fun s2 hv X2 => ?_
    · rw [List.getElem?_eq_none (by omega)] at hv; cases hv
    · have hi' : i = vs.length := by omega
      rw [hi', List.take_length] at hL
      exact fin s2 c (X2.keep L _ (by simpa using hLI) hL) (X.trans (X2.mono (by simp))) (fun o e => X2.keep 1 o (by simpa using h1I) (K1 o e))
  | succ k ih =>
    intro i s' c hi X K1 hS hL
    refine set_next hh hS (fun v s2 hv X2 hS2 => ?_) fun s2 hv X2 => ?_
    · have hL2 := X2.keep L _ (by simpa using hLI) hL
      refine ⟨⟨c, hL2⟩, by rw [List.size_toArray, List.length_take]; omega, fun h' c' hL' hs => ?_⟩
      have e : (vs.take i).toArray.push v = (vs.take (i + 1)).toArray := by
        rw [List.take_add_one, hv]; simp
      rw [e] at hL' ⊢
      have X3 : Ext [L] s2 { s2 with heap := h' } := (Ext.refl [L] s2).but (W := [L]) (tk := s2.toks) (fun b o hb e => (hs.2 b (by simpa using hb)).trans e) (fun b hb => by
        rw [List.mem_singleton.mp hb]
        exact .inl ⟨by simp, fun o e es ep q => by rw [hL2] at e; cases e; cases q⟩)
      exact ih (i + 1) _ c' (by omega) ((X.trans (X2.mono (by simp))).trans (X3.mono (by simp))) (fun o e => X3.keep 1 o (by simpa using h1L) (X2.keep 1 o (by simpa using h1I) (K1 o e))) (hS2.keep hL2 hLI hLa fun b o hb e => (hs.2 b hb).trans e) hL'
    · have : vs[i]? ≠ none := by rw [List.getElem?_eq_getElem (by omega)]; simp
      exact absurd hv this
theorem Ext.fresh {D D' : List Addr} {g s : Shared} (x : Ext D' g s) (h : ∀ d ∈ D', d ∈ D ∨ g.heap.objs.size ≤ d) (h1 : 1 ∈ D) : Ext D g s :=
  x.less h fun _ => h1
theorem collect_set {Q : List Value → Shared → Prop} (hh : A.handled = none) (hS : SetIs prog w s.heap a ss) (ha1 : a ≠ 1) (hb1 : 1 < s.heap.objs.size) (hz : ss.length ≤ 900)
    (hQ : ∀ vs s', (∃ ts, SV vs ts ∧ ts.Perm ss) → Ext [1] s s' → (∀ o, s.heap.get? 1 = some o → s'.heap.get? 1 = some o) → s.heap.objs.size ≤ s'.heap.objs.size → Q vs s') : wpAny (model prog w) A (collect (.ref a)) Q E s := by
  unfold collect
  refine wpAny_bind (wpAny_runValue (codeAny_builtin entry_proto_collect' ?_))
  rw [Around.under_plainId PySem.F.plain_proto_collect _]
  show wpAny _ A.in1 (newList [] >>= fun l => again (.builtin "list.__iadd__" ⟨[l, .ref a], []⟩)) _ _ s
  refine wpAny_bind (wpAny_newObj_type ?_)
  refine wpAny_pure ⟨plainId_quiet PySem.F.plain_list_iadd _, codeAny_builtin entry_list_iadd' ?_⟩
  rw [Around.under_plainId PySem.F.plain_list_iadd _]
  have hL := Heap.get?_push_size (o := ({ cls := .type "list", data := .seq ([] : List Value).toArray } : Obj)) s.heap rfl
  have kp : ∀ b o, s.heap.get? b = some o → (s.heap.push { cls := .type "list", data := .seq ([] : List Value).toArray }).get? b = some o := fun b o e => Heap.get?_push_of_some _ e
  have X0 : Ext [] s { s with heap := s.heap.push { cls := .type "list", data := .seq ([] : List Value).toArray } } := Ext.heap (s := s) (tk := s.toks) fun b o _ e => kp b o e
  have hS0 : SetIs prog w (s.heap.push { cls := .type "list", data := .seq ([] : List Value).toArray }) a ss := hS.at fun o e => kp a o e
  have halt : a < s.heap.objs.size := let ⟨_, _, _, e, _⟩ := hS; Heap.lt_size e
  have hT0 : Shared.TypeIs { s with heap := s.heap.push { cls := .type "list", data := .seq ([] : List Value).toArray } } (.ref a) "set" := let ⟨_, _, _, e, _⟩ := hS0; ⟨_, e, rfl⟩
  show wpAny _ A.in1 (Builtin.List.listExtendWith (.ref s.heap.objs.size) (.ref a) (.ref s.heap.objs.size)) _ _ _
  have hLa : s.heap.objs.size ≠ a := Nat.ne_of_gt halt
  generalize hLe : s.heap.objs.size = L at *
  generalize hs1 : ({ s with heap := s.heap.push { cls := .type "list", data := .seq ([] : List Value).toArray } } : Shared) = s1 at *
  replace hL : s1.heap.get? L = some { cls := .type "list", data := .seq ([] : List Value).toArray } := by rw [← hs1]; exact hL
  replace hS0 : SetIs prog w s1.heap a ss := by rw [← hs1]; exact hS0
  have hL1 : L < s1.heap.objs.size := Heap.lt_size hL
  unfold Builtin.List.listExtendWith
  refine wpAny_bind (wpAny_typeOf hT0 ?_)
  have h1 : Builtin.List.listSameRef (.ref L) (.ref a) = false := by simp [Builtin.List.listSameRef, hLa]
  have h2 : (Value.type "set" == Value.type "list") = false := by decide
  have h3 : (Value.type "set" == Value.type "tuple") = false := by decide
  simp only [h1, h2, h3, Bool.or_false, Bool.false_eq_true, if_false]
  refine wpAny_bind (set_iter hS0 (by omega) fun I s2 vs hI X2 K2 hIt hts => ?_)
  refine wpAny_bind (wpAny_holding ?_)
  unfold Builtin.List.listLengthHint
  have hLI : L ≠ I := Nat.ne_of_lt (Nat.lt_of_lt_of_le hL1 hI)
  have n1 : L ≠ 1 ∧ a ≠ 1 := ⟨Nat.ne_of_gt hb1, ha1⟩
  have n1I : 1 ≠ I := Nat.ne_of_lt (Nat.lt_trans hb1 (Nat.lt_of_lt_of_le hL1 hI))
  have hT2 : s2.TypeIs (.ref a) "set" := let ⟨_, _, _, e, _⟩ := hS0; ⟨_, X2.keep a _ (by simpa using n1.2) e, rfl⟩
  refine wpAny_bind (wpAny_specialOf hT2 PySem.F.slot_set_len.lookup ?_)
  dsimp only
  rw [split_set_len]
  dsimp only
  refine wpAny_bind (wpAny_isInstance hT2 sub_set_self ?_)
  refine wpAny_ite_split (fun hn => absurd hn (by decide)) (fun _ => ?_)
  refine wpAny_ite_split (fun _ => ?_) (fun hn => absurd (by decide +kernel) hn)
  refine wpAny_bind (wpAny_typeOf hT2 ?_)
  dsimp only
  refine wpAny_pure ?_
  refine wpAny_ite_split (fun _ => ?_) (fun hn => absurd (by decide +kernel) hn)
  have hL2 := X2.keep L _ (by simpa using n1.1) hL
  refine wpAny_bind (wpAny_rule (wpAny_bind ?_))
  show wpAny _ A.in1 (updateSeq L (·.push .none) >>= fun _ => updateSeq L (·.pop)) _ _ _
  refine wpAny_bind (wpAny_updateSeq hL2 rfl ?_)
  have hL3 := Heap.get?_update_self (Obj.mapSeq (·.push Value.none)) hL2 rfl
  refine wpAny_updateSeq (hz := by seq_fits) hL3 rfl ?_
  have hL4 := Heap.get?_update_self (Obj.mapSeq (·.pop)) hL3 rfl
  have k4 : ∀ b o, b ≠ L → s2.heap.get? b = some o → ((s2.heap.update L (Obj.mapSeq fun x => x.push Value.none)).update L (Obj.mapSeq fun x => x.pop)).get? b = some o := fun b o hb e => (Heap.get?_update_other _ _ (Ne.symm hb)).trans ((Heap.get?_update_other _ _ (Ne.symm hb)).trans e)
  have hIs : s.heap.objs.size ≤ I := Nat.le_trans (by rw [hLe]; exact Nat.le_of_lt hL1) hI
  have X4 : Ext [1, L, I] s { s2 with heap := (s2.heap.update L (Obj.mapSeq fun x => x.push Value.none)).update L (Obj.mapSeq fun x => x.pop) } :=
    ((((X0.mono (D' := [1]) (by simp)).trans X2).mono (D' := [1, L, I]) (by simp)).but (W := [L]) (tk := s2.toks) (fun b o hb e => k4 b o (by simpa using hb) e) (fun b hb => .inr (by rw [List.mem_singleton.mp hb, hLe]; exact Nat.le_refl _)))
  obtain ⟨ts, hsv, hperm⟩ := hts
  have hvl : vs.length ≤ 1000 := by rw [hsv.len, hperm.length_eq]; omega
  refine wpAny_pure ⟨plainId_quiet PySem.F.plain_extend_loop _, feed_loop (vs.length + 1) #[] _ (feed_set (s := s) (vs := vs) (by simp [hh]) hvl hLI hLa (Ne.symm n1.1) n1I (fun s' c hL' X' K' => ?_) vs.length 0 _ _ (by omega) X4 (fun o e => k4 1 o (Ne.symm n1.1) (K2 o (X0.keep 1 o (by simp) e))) (hIt.keep hL2 hLI hLa k4) hL4)⟩
  show wpAny _ A (load L >>= _) _ _ _
  refine wpAny_bind (wpAny_load hL' (wpAny_pure (hQ vs s' ⟨ts, hsv, hperm⟩ (X'.fresh (fun d hd => ?_) (by simp)) K' (Nat.le_of_lt (Heap.lt_size hL')))))
  simp only [List.mem_cons, List.not_mem_nil, or_false] at hd
  rcases hd with rfl | rfl | rfl
  · exact .inl (by simp)
  · exact .inr (Nat.le_of_eq hLe)
  · exact .inr hIs
end
section
variable {prog : Program} {w : World} {A : Around} {s : Shared} {E : Value → Shared → Prop} {a : Addr} {ss : List (List Nat)}
/-- sorted(a set of texts) -/
theorem sorted_set {Q : Value → Shared → Prop} (hh : A.handled = none) (hS : SetIs prog w s.heap a ss) (ha1 : a ≠ 1) (hb1 : 1 < s.heap.objs.size) (hz : ss.length < 60)
    (h : ∀ c ys ts s' e, SV ys ts → ts.Perm ss → Rising ts → Ext [1] s s' → (∀ o, s.heap.get? 1 = some o → s'.heap.get? 1 = some o) → s.heap.objs.size ≤ c → s'.heap.get? c = some (lsO ys.toArray e) → Q (.ref c) s') :
    wpAny (model prog w) A (call (.builtin "sorted") [.ref a]) Q E s := by
  refine call_function_entry kind_sorted plain_sorted entry_sorted (args_sorted1 _) ?_
  unfold Builtin.«sorted»
  refine wpAny_bind (m := checkCount "sorted" 1 1 _) (wpAny_pure ?_)
  show wpAny _ A.in1 (collect (.ref a) >>= fun vs => (do let l ← newList vs; let _ ← holding [l] (call (.builtin "list.sort") [l] []); ret l)) _ _ s
  refine wpAny_bind (collect_set (A := A.in1) (by simp [hh]) hS ha1 hb1 (by omega) fun vs s1 hts X1 K1 hsz => ?_)
  obtain ⟨ts, hsv, hperm⟩ := hts
  have key := sort_vals (prog := prog) (w := w) (A := A.in1) (s := s1) (E := E) (Q := Q) hsv (by rw [hperm.length_eq]; omega) (fun c ys us s2 e a1 a2 a3 X2 hc hc2 => h c ys us s2 e a1 (a2.trans hperm) a3 (X1.trans (X2.mono (by simp))) (fun o e => X2.keep 1 o (by simp) (K1 o e)) ?_ hc2)
  · have e : (do let l ← newList vs; let _ ← holding [l] (call (.builtin "list.sort") [l] []); ret l : Sem Fin) = ((do let l ← newList vs; let _ ← holding [l] (call (.builtin "list.sort") [l]); pure l) >>= fun l => ret l) := by
      rw [LawfulMonad.bind_assoc]
      refine bind_congr fun l => ?_
      rw [LawfulMonad.bind_assoc]
      rfl
    rw [e]
    exact wpAny_bind (wpAny_mono key (fun v s'' h => wpAny_pure ⟨v, rfl, h⟩) fun _ _ h => h)
  · exact Nat.le_trans hsz hc
end

section
variable {prog : Program} {w : World} {A : Around} {E : Value → Shared → Prop} {D : List Addr} {g s : Shared} {L : Addr} {m : Str → Option Value} {news : List (Addr × Sh)} {env : Env}
/-- two names, stored backwards -/
theorem unpB {x1 x2 : Str} {T : Addr} {v1 v2 : Value} {Q : Shared → Prop} (hh : A.handled = none) (F : Fs D g L m news s) (hT : s.heap.get? T = some (seqObj "tuple" #[v1, v2] 0))
    (h : ∀ s', Fs D g L (fun y => if y = x1 then some v1 else if y = x2 then some v2 else m y) news s' → Q s')
    (hL : env.locals = L := by rfl) (hk : env.scope.kind = .function := by rfl) (h1 : env.kindOf x1 = some .local := by rfl) (h2 : env.kindOf x2 = some .local := by rfl) :
    wpAny (model prog w) A (unpackItems (.ref T) [x1, x2].length none) (fun items s₂ => wpAny (model prog w) A (assignInOrder ([x1, x2].reverse.map fun n => bindName env n) items.reverse) (fun _ => Q) E s₂) E s :=
  unp2 (Q := fun _ => Q) hh F hT h hL hk h1 h2
/-- for x in range(n) -/
theorem forRng {x : Str} {px : Pos} {body : List Stmt} {n : Nat} {tk : Tok} {R : Result → Shared → Prop} (J : Nat → (Str → Option Value) → List (Addr × Sh) → Prop) (hh : A.handled = none) (F : Fs D g L m news s) (hn : n ≤ 100000) (h0 : J 0 m news)
    (hL : env.locals = L) (hk : env.scope.kind = .function) (hx : env.kindOf x = some .local)
    (step : ∀ i t m news s I o E', i < n → J i m news → Fs D g L (fun y => if y = x then some (.int (i : Nat) t) else m y) ((I, .raw o) :: news) s →
      wpAny (model prog w) A (execs body env) (Turn R fun s' => ∃ m' news', Fs D g L m' ((I, .raw o) :: news') s' ∧ J (i + 1) m' news') E' s)
    (fin : ∀ m news s, J n m news → Fs D g L m news s → R (.ok .next) s) :
    wpAny (model prog w) A (call (.type "range") [.int n tk]) (fun xv s₁ => wpAny (model prog w) A (pyIter xv) (fun it s₂ => codeAny (model prog w) A (.forLoop (.Name x px) it body [] env) R s₂) E s₁) E s := by
  refine call_range_1 ?_
  have F1 := (F.step (s' := { s with heap := s.heap.push { cls := .type "range", data := .fields #[.int 0 s.toks, .int n tk, .int 1 (s.toks + 1)] }, toks := s.toks + 1 + 1 }) (Ext.heap fun b o _ e => Heap.get?_push_of_some _ e))
  have hr : IsRange (s.heap.push { cls := .type "range", data := .fields #[.int 0 s.toks, .int n tk, .int 1 (s.toks + 1)] }) s.heap.objs.size 0 n 1 s.toks tk (s.toks + 1) := Heap.get?_push_size _ rfl
  have hrs : Builtin.Range.rangeSize 0 n 1 = n := by unfold Builtin.Range.rangeSize; simp; omega
  have hsm : Builtin.Range.small 0 n 1 = true := by
    have fl : ∀ k : Int, -100 ≤ k → k ≤ 200000 → Builtin.Range.rangeFitsLong k = true := fun k h1 h2 => by
      unfold Builtin.Range.rangeFitsLong
      simp
      omega
    unfold Builtin.Range.small
    rw [hrs, fl 0 (by omega) (by omega), fl n (by omega) (by omega), fl 1 (by omega) (by omega)]
    simp [fl n (by omega) (by omega)]
  refine wpAny_pyIter_range (s := { s with heap := s.heap.push { cls := .type "range", data := .fields #[.int 0 s.toks, .int n tk, .int 1 (s.toks + 1)] }, toks := s.toks + 1 + 1 }) hr hsm ?_
  generalize ({ s with heap := s.heap.push { cls := .type "range", data := .fields #[.int 0 s.toks, .int n tk, .int 1 (s.toks + 1)] }, toks := s.toks + 1 + 1 } : Shared) = s1 at F1 ⊢
  rw [hrs]
  have F2 := F1.push { cls := .type "range_iterator", data := .fields #[rawInt 0, rawInt n, rawInt 1] } (.raw _) s1.toks (Heap.get?_push_size _ rfl)
  have hI : IsRangeIter (s1.heap.push { cls := .type "range_iterator", data := .fields #[rawInt 0, rawInt n, rawInt 1] }) s1.heap.objs.size (0 + ((0 : Nat) : Int) * 1) ((n : Int) - ((0 : Nat) : Int)) 1 := by
    show _ = _
    simp only [Int.natCast_zero, Int.zero_mul, Int.add_zero, Int.sub_zero]
    exact Heap.get?_push_size _ rfl
  refine forW J [] (Walks.range hh s1.heap.objs.size 0 1 n) (by simp) (by simp) (fun i h st => ⟨_, st⟩) F2 hI h0 (fun _ _ _ _ _ _ _ _ hp => nomatch hp) hL hk hx (fun i v m' news' o s' E' hi hP hJ F' => ?_) fin
  obtain ⟨t, rfl⟩ := hP
  rw [show (0 : Int) + (i : Int) * 1 = (i : Int) by omega] at F'
  exact step i t m' news' s' _ o E' hi hJ F'
end

theorem all_same : ∀ (ss ts : List (List Nat)), ss.length = ts.length → (List.range ss.length).all (fun j => decide (ss[j]? = ts[j]?)) = decide (ss = ts) := by
  intro ss ts h
  rw [Bool.eq_iff_iff]
  simp only [List.all_eq_true, List.mem_range, decide_eq_true_eq]
  constructor
  · intro hj
    refine List.ext_getElem? fun j => ?_
    rcases Nat.lt_or_ge j ss.length with q | q
    · exact hj j q
    · rw [List.getElem?_eq_none q, List.getElem?_eq_none (by omega)]
  · intro e j _; rw [e]
section
variable {prog : Program} {w : World} {A : Around} {E : Value → Shared → Prop} {s : Shared} {a b : Addr} {xs ys : Array Value} {ss ts : List (List Nat)} {Q : Value → Shared → Prop}
theorem SV.eqAt (hx : SV xs.toList ss) (hy : SV ys.toList ts) (j : Nat) (h1 : j < xs.size) (h2 : j < ys.size) : SeqAt.EqAt A s xs[j] ys[j] (decide (ss[j]? = ts[j]?)) := by
  obtain ⟨x, t, e1, e2⟩ := hx.get (i := j) (v := xs[j]) (by simp [h1])
  obtain ⟨y, u, e3, e4⟩ := hy.get (i := j) (v := ys[j]) (by simp [h2])
  rw [e2, e4, e1, e3]
  have := SeqAt.EqAt.str_str (A := A) (s := s) (S x) t (S y) u
  rw [S_eq] at this
  simpa using this
/-- two lists of texts differ -/
theorem neLs (hu : A.units < cLine) (ha : s.heap.IsList a xs) (hb : s.heap.IsList b ys) (hx : SV xs.toList ss) (hy : SV ys.toList ts) (h : Q (.bool (decide (ss ≠ ts))) s) : wpAny (model prog w) A (compareOp .NotEq (.ref a) (.ref b)) Q E s := by
  have h1 : xs.size = ss.length := by rw [← Array.length_toList]; exact hx.len
  have h2 : ys.size = ts.length := by rw [← Array.length_toList]; exact hy.len
  by_cases hl : xs.size = ys.size
  · refine SeqAt.RcNeAt.lists (e := fun j => decide (ss[j]? = ts[j]?)) ha hb hl hu (fun j q1 q2 => hx.eqAt hy j q1 q2) prog w E Q ?_
    have e := all_same ss ts (by omega)
    rw [h1, e]
    simpa using h
  · refine SeqAt.RcNeAt.lists_lengths ha hb (by simpa using hl) hu prog w E Q ?_
    have hne : ss ≠ ts := fun q => hl (by rw [h1, h2, q])
    rwa [decide_eq_true hne] at h
theorem eqLs (hu : A.units < cLine) (ha : s.heap.IsList a xs) (hb : s.heap.IsList b ys) (hx : SV xs.toList ss) (hy : SV ys.toList ts) (h : Q (.bool (decide (ss = ts))) s) : wpAny (model prog w) A (compareOp .Eq (.ref a) (.ref b)) Q E s := by
  have h1 : xs.size = ss.length := by rw [← Array.length_toList]; exact hx.len
  have h2 : ys.size = ts.length := by rw [← Array.length_toList]; exact hy.len
  by_cases hl : xs.size = ys.size
  · refine SeqAt.RcAt.lists (e := fun j => decide (ss[j]? = ts[j]?)) ha hb hl hu (fun j q1 q2 => hx.eqAt hy j q1 q2) prog w E Q ?_
    have e := all_same ss ts (by omega)
    rw [h1, e]
    exact h
  · refine SeqAt.RcAt.lists_lengths ha hb (by simpa using hl) hu prog w E Q ?_
    have hne : ¬ ss = ts := fun q => hl (by rw [h1, h2, q])
    rwa [decide_eq_false hne] at h
theorem any_S (ss : List (List Nat)) (x : List Nat) : (ss.map S).any (· == S x) = decide (x ∈ ss) := by
  rw [Bool.eq_iff_iff]
  simp only [List.any_eq_true, List.mem_map, beq_iff_eq, decide_eq_true_eq]
  constructor
  · rintro ⟨_, ⟨y, hy, rfl⟩, e⟩; rw [← S_inj e]; exact hy
  · intro h; exact ⟨_, ⟨x, h, rfl⟩, rfl⟩
/-- a text not among texts -/
theorem ninLs {x : List Nat} {t : Tok} (ha : s.heap.IsList a xs) (hx : SV xs.toList ss) (h : Q (.bool (decide (x ∉ ss))) s) : wpAny (model prog w) A (compareOp .NotIn (.str (S x) t) (.ref a)) Q E s := by
  refine PyProof.Rows.notin_list_strs (vs := xs.toList) (by simpa using ha) hx.strs ?_
  rw [any_S]
  simpa using h
/-- None among texts -/
theorem inNone (ha : s.heap.IsList a xs) (hx : SV xs.toList ss) (h : Q (.bool false) s) : wpAny (model prog w) A (compareOp .In .none (.ref a)) Q E s := by
  refine SeqAt.in_listAt (fun _ => false) ha (fun y hy => ?_) ?_
  · obtain ⟨i, hi, e⟩ := List.mem_iff_getElem.mp (Array.mem_toList_iff.mpr hy)
    obtain ⟨z, u, _, rfl⟩ := hx.get (i := i) (v := y) (by rw [List.getElem?_eq_getElem hi, e])
    exact SeqAt.EqAt.str_none _ _
  · have : (xs.any fun _ => false) = false := by rw [← Array.any_toList]; simp
    rw [this]; exact h
end

section
variable {prog : Program} {w : World} {A : Around} {D : List Addr} {g s : Shared} {L : Addr} {m : Str → Option Value} {news : List (Addr × Sh)} {env : Env} {E : Value → Shared → Prop}
/-- a comprehension over a list, what each element is told by a property -/
theorem compGL (F : Fs D g L m news s) (hh : A.handled = none) {a : Addr} {items : Array Value} {nm : Str} {scope : Scope} {cl : List (Str × Addr)} {elt : Expr} {fin : (Str → Option Value) → Addr → List (Addr × Sh) → Shared → Prop} (JP : Nat → Value → Prop)
    (o : Obj) (ho : ∀ C mC pre s', Fs D g C mC (pre ++ news) s' → s'.heap.get? a = some o) (hl : s.heap.PlainList a items) (hx : items.size ≤ 100000)
    (step : ∀ i v pre C s' E', items[i]? = some v → Fs D g C (fun y => if y = nm then some v else none) (pre ++ news) s' →
      wpAny (model prog w) A (eval elt (compEnvC scope cl C env)) (fun y s'' => JP i y ∧ Fs D g C (fun y => if y = nm then some v else none) (pre ++ news) s'') E' s')
    (hfin : ∀ (acc : Addr) (ys : List Value) (s' : Shared), ys.length = items.size → (∀ (i : Nat) (y : Value), ys[i]? = some y → JP i y) → Fs D g L m ((acc, .list ys.toArray) :: news) s' → fin m acc ((acc, .list ys.toArray) :: news) s') :
    wpAny (model prog w) A (pyIter (.ref a)) (CompGo prog w A D g L env nm scope cl elt fin) E s := by
  refine iterL F hl fun I oI s₁ F1 hit he hne => ?_
  have ho0 := ho L m [] s (by simpa using F)
  have hl1 : s₁.heap.IsList a items := by obtain ⟨n, e⟩ := hl; exact ⟨_, he.trans e, rfl, n, rfl⟩
  refine ⟨I, _, _, _, _, _, oI, m, news, fun i ys nw => nw = news ∧ ys.size = i ∧ ∀ (j : Nat) (y : Value), ys.toList[j]? = some y → JP j y, [(a, o)], rfl, listWalks hh hne items, by simp, by simp, fun i h hst => let ⟨⟨o, e, _⟩, _⟩ := hst; ⟨o, e⟩, F1, ⟨hit, hl1⟩, ⟨rfl, rfl, by simp⟩, hx, ?_, ?_, ?_⟩
  · rintro i ys C mC news' pre s' ⟨rfl, _⟩ F' p hp
    rw [List.mem_singleton.mp hp]; exact ho _ _ _ _ F'
  · rintro i v ys C acc oL news' o' s' E' hi hv' ⟨rfl, hys, hj⟩ hsz F'
    refine wpAny_mono (step i v [(I, .raw o'), (acc, .list ys), (L, .raw oL)] C s' E' hv' F') (fun y s'' h => ?_) fun _ _ e => e
    obtain ⟨hy, F''⟩ := h
    refine ⟨news', F'', rfl, by simp [hys], fun j z hz => ?_⟩
    rw [Array.toList_push] at hz
    rcases Nat.lt_or_ge j ys.toList.length with q | q
    · rw [List.getElem?_append_left q] at hz; exact hj j z hz
    · rw [List.getElem?_append_right q] at hz
      have hlt := (List.getElem?_eq_some_iff.mp hz).1
      simp at hlt q
      have : j = i := by omega
      subst this
      rw [show j - ys.toList.length = 0 by simp; omega] at hz
      cases hz; exact hy
  · rintro acc ys news' s' ⟨rfl, hys, hj⟩ F'
    exact hfin acc ys.toList s' (by simpa using hys) hj F'
/-- an item of a list that nobody holds -/
theorem itemLT {Q : Value → Shared → Prop} {value slice : Expr} {a : Addr} {items : Array Value} {u : Tok} {i : Int} {x : Value} (hl : s.heap.IsList a items) (h0 : 0 ≤ i) (hz : items.size ≤ 1000000) (hx : items[i.toNat]? = some x) (h : Q x s)
    (hs : subscripted slice false (.ref a) (.int i u) = operate [.ref a, .int i u] (getItem (.ref a) (.int i u)) := by with_unfolding_all rfl) : wpAny (model prog w) A (subscriptTail value slice (.ref a) (.int i u)) Q E s := by
  have hlt : i.toNat < items.size := (Array.getElem?_eq_some_iff.mp hx).1
  exact PyProof.Rows.tail_any hl.typeIs slot_list_getitem.lookup (wpAny_getItem_list hl h0 (by omega) hx h) hs
end

/-! what a pattern means -/
def prod (R ts : List (List Nat)) : List (List Nat) := R.flatMap fun r => ts.map fun t => r ++ t
structure Few (R : List (List Nat)) : Prop where
  len : R.length ≤ 1000
  sz : ∀ t ∈ R, t.length ≤ 100000
theorem Few.sub {a b : List (List Nat)} (h : Few b) (hl : a.length ≤ b.length) (hm : ∀ t ∈ a, t ∈ b) : Few a := ⟨Nat.le_trans hl h.len, fun t ht => h.sz t (hm t ht)⟩
theorem Few.perm {a b : List (List Nat)} (h : Few b) (p : a.Perm b) : Few a := h.sub (Nat.le_of_eq p.length_eq) fun _ ht => p.mem_iff.mp ht
theorem Few.subl {a b : List (List Nat)} (h : Few b) (p : a.Sublist b) : Few a := h.sub p.length_le fun _ ht => p.subset ht
theorem prod_one (ts : List (List Nat)) : prod [[]] ts = ts := by simp [prod]
theorem prod_single (p : List Nat) (ts : List (List Nat)) : prod [p] ts = ts.map fun t => p ++ t := by simp [prod]
theorem prod_lit (R : List (List Nat)) (x : List Nat) : prod R [x] = R.map fun r => r ++ x := by
  induction R with
  | nil => rfl
  | cons a R ih => show [a ++ x] ++ prod R [x] = _; rw [ih]; rfl
theorem prod_lit2 (R : List (List Nat)) (x y : List Nat) : prod (prod R [x]) [y] = prod R [x ++ y] := by
  simp [prod_lit]
/-- what the reader takes for one thing, but for groups -/
inductive RdB : List Nat → List (List Nat) → List Nat → Prop
  | esc (c : Nat) (l : List Nat) : RdB (92 :: c :: l) [[c]] l
  | lit {c : Nat} (l : List Nat) : c ∉ escSet → RdB (c :: l) [[c]] l
  | set {cs : List Nat} (l : List Nat) : cs.length ≤ 1000 → RdB (csOf cs ++ l) (cs.map fun c => [c]) l
/-- the reader's turns -/
inductive RdL (I : List Nat → List (List Nat) → List Nat → Prop) : List Nat → List (List Nat) → List (List Nat) → List (List Nat) → List Nat → Prop
  | stop {l D R} : (l = [] ∨ l.head? = some 41) → Few (D ++ R) → RdL I l D R (D ++ R) l
  | bar {l D R out l'} : Few (D ++ R) → RdL I l (D ++ R) [[]] out l' → RdL I (124 :: l) D R out l'
  | item {l D R ts l1 out l'} : I l ts l1 → l1.head? ≠ some 63 → Few ts → Few (prod R ts) → RdL I l1 D (prod R ts) out l' → RdL I l D R out l'
  | opt {l D R ts l1 out l'} : I l ts (63 :: l1) → Few (ts ++ [[]]) → Few (prod R (ts ++ [[]])) → RdL I l1 D (prod R (ts ++ [[]])) out l' → RdL I l D R out l'
def RdI : Nat → List Nat → List (List Nat) → List Nat → Prop
  | 0 => RdB
  | k + 1 => fun l ts l' => RdB l ts l' ∨ ∃ b m, l = 40 :: m ∧ (m = 63 :: 58 :: b ∨ (m = b ∧ b.take 2 ≠ [63, 58])) ∧ RdL (RdI k) b [] [[]] ts (41 :: l')
theorem RdI.base {l l' : List Nat} {ts : List (List Nat)} (h : RdB l ts l') : ∀ k, RdI k l ts l'
  | 0 => h
  | _ + 1 => .inl h
theorem Few.one {x : List Nat} (h : x.length ≤ 100000) : Few [x] := ⟨by simp, fun t ht => by rw [List.mem_singleton.mp ht]; exact h⟩
theorem q_esc : 63 ∈ escSet := by decide +kernel
theorem p_esc : 41 ∈ escSet := by decide +kernel
theorem escC_head {c : Nat} {l : List Nat} : (escC c ++ l).head? ≠ some 63 := by
  unfold escC
  split
  · simp
  · rename_i h
    intro q
    have : c = 63 := by simpa using q
    exact h (this ▸ q_esc)
theorem esc_cons (c : Nat) (x : List Nat) : esc (c :: x) = escC c ++ esc x := rfl
theorem esc_head {x l : List Nat} (h : l.head? ≠ some 63) : (esc x ++ l).head? ≠ some 63 := by
  cases x with
  | nil => exact h
  | cons c x => rw [esc_cons, List.append_assoc]; exact escC_head
theorem csOf_head (x l : List Nat) : (csOf x ++ l).head? ≠ some 63 := by simp [csOf]
theorem RdB.sign (c : Nat) (l : List Nat) : RdB (escC c ++ l) [[c]] l := by
  unfold escC
  split
  · exact .esc c l
  · rename_i h; exact .lit l h
/-- signs for themselves -/
theorem rd_lits {k : Nat} {D out : List (List Nat)} {l l'' : List Nat} (hl : l.head? ≠ some 63) :
    ∀ (x : List Nat) (R : List (List Nat)), x.length ≤ 100000 → Few (prod R [x]) → RdL (RdI k) l D (prod R [x]) out l'' → RdL (RdI k) (esc x ++ l) D R out l''
  | [], R, _, _, h => by
    rw [prod_lit] at h
    show RdL (RdI k) l D R out l''
    simpa using h
  | c :: x, R, hx, hf, h => by
    rw [esc_cons, List.append_assoc]
    have hx1 : x.length + 1 ≤ 100000 := by simpa using hx
    have h1 : Few (prod R [[c]]) := by
      rw [prod_lit] at hf ⊢
      refine ⟨by simpa using hf.len, fun t ht => ?_⟩
      obtain ⟨r, hr, rfl⟩ := List.mem_map.mp ht
      have := hf.sz _ (List.mem_map_of_mem hr)
      simp only [List.length_append, List.length_cons, List.length_nil] at this ⊢; omega
    refine .item (.base (.sign c _) k) (esc_head hl) (.one (by simp)) h1 (rd_lits hl x _ (by omega) ?_ ?_)
    · rw [prod_lit2]; exact hf
    · rw [prod_lit2]; exact h
/-- the meaning, in the order of the pattern -/
def den : Nat → List (List Nat) → List (List Nat)
  | 0, _ => []
  | _ + 1, [] => []
  | _ + 1, [w] => [w]
  | n + 1, w :: w' :: r =>
    if w = [] then den n (w' :: r) ++ [[]]
    else if w.length = 1 ∧ 1 < (ones (w :: w' :: r)).length then den n (rests (w :: w' :: r)) ++ ones (w :: w' :: r)
    else if cpL (w :: w' :: r) ≠ [] then (den n (cut (cpL (w :: w' :: r)).length (w :: w' :: r))).map fun t => cpL (w :: w' :: r) ++ t
    else if cpL ((w :: w' :: r).map List.reverse) ≠ [] then
      (den n (isort (cutE (cpL ((w :: w' :: r).map List.reverse)).length (w :: w' :: r)))).map fun t => t ++ (cpL ((w :: w' :: r).map List.reverse)).reverse
    else den n ((w :: w' :: r).takeWhile (sameHd w)) ++ den n ((w :: w' :: r).dropWhile (sameHd w))
theorem den_nil (n : Nat) : den n [] = [] := by cases n <;> rfl
theorem cut_back {p : List Nat} : ∀ {ws : List (List Nat)}, (∀ w ∈ ws, p <+: w) → (cut p.length ws).map (fun t => p ++ t) = ws
  | [], _ => rfl
  | w :: r, h => by
    obtain ⟨t, ht⟩ := h w (.head _)
    have ih := cut_back (p := p) (ws := r) fun v hv => h v (.tail _ hv)
    show (p ++ w.drop p.length) :: (cut p.length r).map _ = _
    rw [ih, ← ht]; simp
theorem cutE_back {q : List Nat} {ws : List (List Nat)} (hq : ∀ v ∈ ws.map List.reverse, q <+: v) : (cutE q.length ws).map (fun t => t ++ q.reverse) = ws := by
  unfold cutE
  rw [List.map_map]
  conv => rhs; rw [← List.map_id ws]
  exact List.map_congr_left fun w hw => (cutE_mem hq hw).1.symm
theorem filter_perm (p : List Nat → Bool) : ∀ ws : List (List Nat), ((ws.filter fun w => !p w) ++ ws.filter p).Perm ws
  | [] => .refl _
  | w :: r => by
    have ih := filter_perm p r
    cases h : p w
    · rw [List.filter_cons_of_pos (by simp [h]), List.filter_cons_of_neg (by simp [h])]
      exact ih.cons w
    · rw [List.filter_cons_of_neg (by simp [h]), List.filter_cons_of_pos h]
      exact (List.perm_middle).trans (ih.cons w)
theorem den_perm : ∀ (n : Nat) (ws : List (List Nat)), mu ws ≤ n → Good ws → (den n ws).Perm ws
  | 0, ws, hm, _ => by
    have := mu_lo ws
    have : ws = [] := List.length_eq_zero_iff.mp (by omega)
    subst this; exact .refl _
  | _ + 1, [], _, _ => .refl _
  | _ + 1, [w], _, _ => .refl _
  | n + 1, w :: w' :: r, hm, G => by
    have hne : w :: w' :: r ≠ [] := by simp
    unfold den
    split
    · rename_i hw
      subst hw
      have ih := den_perm n (w' :: r) (mu_tail hm) (G.sub (List.sublist_cons_self _ _))
      exact (List.perm_append_comm (l₂ := [[]])).trans (ih.cons [])
    split
    · rename_i hw h1
      have ih := den_perm n (rests (w :: w' :: r)) (mu_rests hm h1.2) (rests_good G)
      exact (ih.append_right _).trans (filter_perm _ _)
    split
    · rename_i hp
      have ih := den_perm n (cut (cpL (w :: w' :: r)).length (w :: w' :: r)) (mu_cp hm hne hp) (G.cut (cp_pre hne))
      have h2 := ih.map fun t => cpL (w :: w' :: r) ++ t
      rwa [cut_back (cp_pre hne)] at h2
    rename_i hp0
    have hp0 : cpL (w :: w' :: r) = [] := by simpa using hp0
    split
    · rename_i hp
      have ih := den_perm n _ (mu_sf hm hne hp0 hp) (G.cutE (suf_pre hne))
      have h2 := (ih.trans (isort_perm _)).map fun t => t ++ (cpL ((w :: w' :: r).map List.reverse)).reverse
      rwa [cutE_back (suf_pre hne)] at h2
    · rename_i hw h1 _ hq
      have h2 := mu_two hm hw hp0
      have i1 := den_perm n _ h2.1 (G.sub (List.takeWhile_sublist (p := sameHd w) (l := w :: w' :: r)))
      have i2 := den_perm n _ h2.2 (G.sub (List.dropWhile_sublist (sameHd w) (l := w :: w' :: r)))
      have h3 := i1.append i2
      rwa [List.takeWhile_append_dropWhile] at h3

theorem rx_op {n : Nat} {ws : List (List Nat)} (op : List Nat) (hn : n ≠ 0) (hne : ws ≠ []) : rx n ws op = op ++ rx n ws [] ++ clo op := by
  obtain ⟨n, rfl⟩ : ∃ m, n = m + 1 := ⟨n - 1, by omega⟩
  have hc : clo [] = [] := rfl
  match ws, hne with
  | [w], _ => unfold rx; simp [hc]
  | w :: w' :: r, _ =>
    unfold rx
    split
    · simp [hc]
    split
    · split
      · simp [hc]
      · simp [hc]
    split
    · simp [hc]
    split
    · simp [hc]
    · simp [hc]
theorem mu_n {n : Nat} {ws : List (List Nat)} (hne : ws ≠ []) (hm : mu ws ≤ n) : n ≠ 0 := by have := mu_pos hne; omega
theorem suf_ne {ws : List (List Nat)} (hne : ws ≠ []) (k : Nat) : isort (cutE k ws) ≠ [] := fun q => by
  have := (isort_perm (cutE k ws)).length_eq
  rw [q] at this
  have h2 := List.length_pos_iff.mpr hne
  simp [cutE] at this
  exact hne (List.length_eq_zero_iff.mp (by omega))
theorem rx_first : ∀ (n : Nat) (ws : List (List Nat)) (l : List Nat), ws ≠ [] → mu ws ≤ n → l.head? ≠ some 63 → (rx n ws [] ++ l).head? ≠ some 63
  | 0, ws, _, hne, hm, _ => absurd rfl (mu_n hne hm)
  | _ + 1, [], _, hne, _, _ => absurd rfl hne
  | _ + 1, [w], l, _, _, hl => by show (esc w ++ [] ++ l).head? ≠ _; rw [List.append_nil]; exact esc_head hl
  | n + 1, w :: w' :: r, l, hne, hm, hl => by
    have hc : clo [] = [] := rfl
    have hlen2 : 2 ≤ (w :: w' :: r).length := by simp
    unfold rx
    split
    · rename_i hw
      subst hw
      rw [rx_op nc (mu_n (by simp) (mu_tail hm)) (by simp)]; simp
    split
    · rename_i hw h1
      split
      · simp [csOf]
      · rename_i hr
        have ih := rx_first n (rests (w :: w' :: r)) ([124] ++ csOf (ones (w :: w' :: r)).flatten ++ l) hr (mu_rests hm h1.2) (by simp)
        simpa [hc] using ih
    split
    · rename_i hp
      have := esc_head (x := cpL (w :: w' :: r)) (l := rx n (cut (cpL (w :: w' :: r)).length (w :: w' :: r)) nc ++ l) (by
        rw [rx_op nc (mu_n (by simp [cut]) (mu_cp hm hne hp)) (by simp [cut])]; simp)
      simpa [hc] using this
    split
    · rename_i hcp hp
      have hcp : cpL (w :: w' :: r) = [] := by simpa using hcp
      rw [rx_op nc (mu_n (suf_ne hne _) (mu_sf hm hne hcp hp)) (suf_ne hne _)]; simp
    · rename_i hw h1 hp hq
      have hp : cpL (w :: w' :: r) = [] := by simpa using hp
      have ih := rx_first n _ ([124] ++ rx n ((w :: w' :: r).dropWhile (sameHd w)) [] ++ l) (take_ne w (w' :: r)) (mu_two hm hw hp).1 (by simp)
      simpa [hc, joined] using ih
theorem Few.right {a b : List (List Nat)} (h : Few (a ++ b)) : Few b := h.subl (List.sublist_append_right _ _)
theorem Few.left {a b : List (List Nat)} (h : Few (a ++ b)) : Few a := h.subl (List.sublist_append_left _ _)
theorem Few.cut {ws : List (List Nat)} (h : Few ws) (k : Nat) : Few (cut k ws) := ⟨by simpa [Mine.cut] using h.len, fun t ht => by
  obtain ⟨v, hv, rfl⟩ := List.mem_map.mp ht
  have := h.sz v hv
  rw [List.length_drop]; omega⟩
theorem Few.cutE {ws : List (List Nat)} (h : Few ws) (k : Nat) : Few (cutE k ws) := ⟨by simpa [Mine.cutE] using h.len, fun t ht => by
  obtain ⟨v, hv, rfl⟩ := List.mem_map.mp ht
  have := h.sz v hv
  rw [List.length_take]; omega⟩
theorem ones_back (ws : List (List Nat)) : (ones ws).flatten.map (fun c => [c]) = ones ws := by
  have : ∀ l : List (List Nat), (∀ x ∈ l, x.length = 1) → l.flatten.map (fun c => [c]) = l := by
    intro l
    induction l with
    | nil => intro _; rfl
    | cons a l ih =>
      intro h
      obtain ⟨c, rfl⟩ := List.length_eq_one_iff.mp (h a (.head _))
      rw [List.flatten_cons, List.map_append, ih fun x hx => h x (.tail _ hx)]; rfl
  exact this _ fun x hx => by simpa using (List.mem_filter.mp hx).2
/-- the pattern reads as its meaning -/
theorem rd_rx : ∀ (n : Nat) (ws : List (List Nat)), ws ≠ [] → mu ws ≤ n → Good ws → ∀ (k : Nat), n ≤ k → ∀ (D : List (List Nat)) (l : List Nat) (out : List (List Nat)) (l'' : List Nat), Few (D ++ ws) → l.head? ≠ some 63 →
    (∀ D' R', D' ++ R' = D ++ den n ws → RdL (RdI k) l D' R' out l'') → RdL (RdI k) (rx n ws [] ++ l) D [[]] out l''
  | 0, ws, hne, hm, _ => absurd rfl (mu_n hne hm)
  | _ + 1, [], hne, _, _ => absurd rfl hne
  | n + 1, [w], _, _, _ => fun k _ D l out l'' hf hl h => by
    show RdL _ (esc w ++ [] ++ l) _ _ _ _
    rw [List.append_nil]
    refine rd_lits hl w [[]] (hf.sz w (by simp)) ?_ (h D _ ?_)
    · rw [prod_one]; exact hf.right
    · rw [prod_one]; rfl
  | n + 1, w :: w' :: r, hne, hm, G => fun k hk D l out l'' hf hl h => by
    have hc : clo [] = [] := rfl
    have hlen2 : 2 ≤ (w :: w' :: r).length := by simp
    obtain ⟨k, rfl⟩ : ∃ j, k = j + 1 := ⟨k - 1, by omega⟩
    have hk' : n ≤ k := by omega
    have grp : ∀ us, us ≠ [] → mu us ≤ n → Good us → Few us → ∀ m, RdI (k + 1) (rx n us nc ++ m) (den n us) m := fun us u1 u2 u3 u4 m => by
      rw [rx_op nc (mu_n u1 u2) u1]
      refine .inr ⟨rx n us [] ++ 41 :: m, _, rfl, .inl ?_, ?_⟩
      · simp [clo]
      · refine rd_rx n us u1 u2 u3 k hk' [] (41 :: m) _ _ (by simpa using u4) (by simp) fun D' R' e => ?_
        have hfd : Few (D' ++ R') := by rw [e]; exact u4.perm (den_perm n us u2 u3)
        have := RdL.stop (I := RdI k) (l := 41 :: m) (.inr rfl) hfd
        rwa [e] at this
    unfold rx
    unfold den at h
    split
    · rename_i hw
      subst hw
      rw [if_pos rfl] at h
      have hfr : Few (w' :: r) := hf.subl ((List.sublist_cons_self _ _).trans (List.sublist_append_right _ _))
      have hg := grp (w' :: r) (by simp) (mu_tail hm) (G.sub (List.sublist_cons_self _ _)) hfr (63 :: l)
      have hfd : Few (den n (w' :: r) ++ [[]]) := (hf.right).perm (((den_perm n (w' :: r) (mu_tail hm) (G.sub (List.sublist_cons_self _ _))).append_right _).trans (List.perm_append_comm (l₂ := [[]])))
      have := RdL.opt (D := D) (R := [[]]) (out := out) (l' := l'') hg hfd (by rw [prod_one]; exact hfd) (h D _ (by rw [prod_one]))
      simpa [hc] using this
    rename_i hw
    rw [if_neg hw] at h
    split
    · rename_i h1
      rw [if_pos h1] at h
      have hset : ∀ (D : List (List Nat)), Few (D ++ ones (w :: w' :: r)) → (∀ D' R', D' ++ R' = D ++ ones (w :: w' :: r) → RdL (RdI (k + 1)) l D' R' out l'') → RdL (RdI (k + 1)) (csOf (ones (w :: w' :: r)).flatten ++ l) D [[]] out l'' := fun D hfo h => by
        have hb : RdI (k + 1) (csOf (ones (w :: w' :: r)).flatten ++ l) (ones (w :: w' :: r)) l := .base (by
          have := RdB.set (cs := (ones (w :: w' :: r)).flatten) l (by rw [ones_flat]; exact hfo.right.len)
          rwa [ones_back] at this) _
        exact .item hb hl hfo.right (by rw [prod_one]; exact hfo.right) (h D _ (by rw [prod_one]))
      split
      · rename_i hr
        rw [hr, den_nil, List.nil_append] at h
        have := hset D (hf.subl ((List.Sublist.refl D).append (List.filter_sublist))) h
        simpa [hc] using this
      · rename_i hr
        have hp := filter_perm (fun w => decide (w.length = 1)) (w :: w' :: r)
        have dp := den_perm n (rests (w :: w' :: r)) (mu_rests hm h1.2) (rests_good G)
        have hfd : Few (D ++ den n (rests (w :: w' :: r)) ++ ones (w :: w' :: r)) := by
          refine hf.perm ?_
          rw [List.append_assoc]
          exact ((dp.append_right _).trans hp).append_left D
        have ih := rd_rx n (rests (w :: w' :: r)) hr (mu_rests hm h1.2) (rests_good G) (k + 1) (by omega) D (124 :: (csOf (ones (w :: w' :: r)).flatten ++ l)) out l'' (hf.subl ((List.Sublist.refl D).append (List.filter_sublist))) (by simp) (fun D' R' e => by
          refine .bar (by rw [e]; exact hfd.left) (hset _ ?_ fun D2 R2 e2 => h D2 R2 ?_)
          · rw [e]; exact hfd
          · rw [e2, e, List.append_assoc])
        simpa [hc] using ih
    rename_i h1
    rw [if_neg h1] at h
    split
    · rename_i hp
      rw [if_pos hp] at h
      have hm2 := mu_cp hm hne hp
      have hg2 := G.cut (cp_pre hne)
      have hg := grp (cut (cpL (w :: w' :: r)).length (w :: w' :: r)) (by simp [cut]) hm2 hg2 (hf.right.cut _) l
      have dp := den_perm n _ hm2 hg2
      have hlp : (cpL (w :: w' :: r)).length ≤ 100000 := Nat.le_trans (cp_pre hne w (.head _)).length_le (hf.sz w (by simp))
      have hfm : Few ((den n (cut (cpL (w :: w' :: r)).length (w :: w' :: r))).map fun t => cpL (w :: w' :: r) ++ t) := by
        have h2 := dp.map fun t => cpL (w :: w' :: r) ++ t
        rw [cut_back (cp_pre hne)] at h2
        exact hf.right.perm h2
      have := rd_lits (k := k + 1) (D := D) (out := out) (l'' := l'') (l := rx n (cut (cpL (w :: w' :: r)).length (w :: w' :: r)) nc ++ l) (by
        rw [rx_op nc (mu_n (by simp [cut]) hm2) (by simp [cut])]; simp) (cpL (w :: w' :: r)) [[]] hlp (by rw [prod_one]; exact .one hlp)
        (.item hg hl ((hf.right.cut _).perm dp) (by rw [prod_one, prod_single]; exact hfm) (h D _ (by rw [prod_one, prod_single])))
      simpa [hc] using this
    rename_i hp
    rw [if_neg hp] at h
    split
    · rename_i hq
      rw [if_pos hq] at h
      have hcp : cpL (w :: w' :: r) = [] := by simpa using hp
      have hm2 := mu_sf hm hne hcp hq
      have hg2 := G.cutE (suf_pre hne)
      have hfe : Few (isort (cutE (cpL ((w :: w' :: r).map List.reverse)).length (w :: w' :: r))) := (hf.right.cutE _).perm (isort_perm _)
      have hg := grp _ (suf_ne hne _) hm2 hg2 hfe (esc (cpL ((w :: w' :: r).map List.reverse)).reverse ++ l)
      have dp := den_perm n _ hm2 hg2
      have hlp : (cpL ((w :: w' :: r).map List.reverse)).reverse.length ≤ 100000 := by
        have h3 := (suf_pre hne w.reverse (List.mem_map_of_mem (.head _))).length_le
        have h4 := hf.sz w (by simp)
        rw [List.length_reverse] at h3 ⊢; omega
      have hfm : Few ((den n (isort (cutE (cpL ((w :: w' :: r).map List.reverse)).length (w :: w' :: r)))).map fun t => t ++ (cpL ((w :: w' :: r).map List.reverse)).reverse) := by
        have h2 := (dp.trans (isort_perm _)).map fun t => t ++ (cpL ((w :: w' :: r).map List.reverse)).reverse
        rw [cutE_back (suf_pre hne)] at h2
        exact hf.right.perm h2
      have := RdL.item (I := RdI (k + 1)) (D := D) (R := [[]]) (out := out) (l' := l'') hg (esc_head hl) (hfe.perm dp) (by rw [prod_one]; exact hfe.perm dp)
        (rd_lits hl _ _ hlp (by rw [prod_one, prod_lit]; exact hfm) (h D _ (by rw [prod_one, prod_lit])))
      simpa [hc] using this
    · rename_i hq
      rw [if_neg hq] at h
      have hp : cpL (w :: w' :: r) = [] := by simpa using hp
      have hm2 := mu_two hm hw hp
      have g1 := G.sub (List.takeWhile_sublist (p := sameHd w) (l := w :: w' :: r))
      have g2 := G.sub (List.dropWhile_sublist (sameHd w) (l := w :: w' :: r))
      have d1 := den_perm n _ hm2.1 g1
      have d2 := den_perm n _ hm2.2 g2
      have hf1 : Few (D ++ (w :: w' :: r).takeWhile (sameHd w)) := hf.subl ((List.Sublist.refl D).append (List.takeWhile_sublist _))
      have hf2 : Few (D ++ den n ((w :: w' :: r).takeWhile (sameHd w)) ++ (w :: w' :: r).dropWhile (sameHd w)) := by
        refine hf.perm ?_
        rw [List.append_assoc]
        refine List.Perm.append_left D ?_
        have := d1.append_right ((w :: w' :: r).dropWhile (sameHd w))
        rwa [List.takeWhile_append_dropWhile] at this
      have ih := rd_rx n _ (take_ne w (w' :: r)) hm2.1 g1 (k + 1) (by omega) D (124 :: (rx n ((w :: w' :: r).dropWhile (sameHd w)) [] ++ l)) out l'' hf1 (by simp) (fun D' R' e => by
        refine .bar (by rw [e]; exact hf2.left) (rd_rx n _ (drop_ne hw hp) hm2.2 g2 (k + 1) (by omega) _ _ _ _ (by rw [e]; exact hf2) hl fun D2 R2 e2 => h D2 R2 ?_)
        rw [e2, e, List.append_assoc])
      simpa [hc, joined] using ih

/-- no later text that begins with an earlier one -/
def Long1 (l : List (List Nat)) : Prop := l.Pairwise fun a b => ¬ a <+: b
theorem head_none {w : List Nat} {r : List (List Nat)} (hw : w ≠ []) (up : Rising (w :: r)) : ∀ x ∈ w :: r, x ≠ [] := fun x hx q => by
  subst q
  rcases List.mem_cons.mp hx with q | hx
  · exact hw q.symm
  · have := (List.pairwise_cons.mp up).1 [] hx
    cases w with
    | nil => exact hw rfl
    | cons c w => exact this (by simp)
theorem take_all {p : List Nat → Bool} {l : List (List Nat)} {x : List Nat} (h : x ∈ l.takeWhile p) : p x = true := by
  induction l with
  | nil => cases h
  | cons a l ih =>
    rw [List.takeWhile_cons] at h
    split at h
    · rcases List.mem_cons.mp h with rfl | h
      · assumption
      · exact ih h
    · cases h
theorem den_long : ∀ (n : Nat) (ws : List (List Nat)), mu ws ≤ n → Good ws → Long1 (den n ws)
  | 0, _, _, _ => List.Pairwise.nil
  | _ + 1, [], _, _ => List.Pairwise.nil
  | _ + 1, [w], _, _ => List.pairwise_singleton _ _
  | n + 1, w :: w' :: r, hm, G => by
    have hne : w :: w' :: r ≠ [] := by simp
    have hlen2 : 2 ≤ (w :: w' :: r).length := by simp
    unfold den
    split
    · rename_i hw
      subst hw
      have g1 := G.sub (List.sublist_cons_self _ _)
      have ih := den_long n (w' :: r) (mu_tail hm) g1
      have dp := den_perm n (w' :: r) (mu_tail hm) g1
      refine List.pairwise_append.mpr ⟨ih, List.pairwise_singleton _ _, fun a ha b hb q => ?_⟩
      rw [List.mem_singleton.mp hb, List.prefix_nil] at q
      subst q
      exact (List.nodup_cons.mp G.nd).1 (dp.mem_iff.mp ha)
    rename_i hw
    split
    · rename_i h1
      have hm2 := mu_rests hm h1.2
      have ih := den_long n _ hm2 (rests_good G)
      have dp := den_perm n _ hm2 (rests_good G)
      refine List.pairwise_append.mpr ⟨ih, ?_, fun a ha b hb q => ?_⟩
      · refine ((G.nd.sublist (List.filter_sublist (p := fun w : List Nat => decide (w.length = 1)))).imp_of_mem fun {a b} ha hb hab q => hab ?_)
        have la : a.length = 1 := by simpa using (List.mem_filter.mp ha).2
        have lb : b.length = 1 := by simpa using (List.mem_filter.mp hb).2
        exact q.eq_of_length (by omega)
      · have la := List.mem_filter.mp (dp.mem_iff.mp ha)
        have lb : b.length = 1 := by simpa using (List.mem_filter.mp hb).2
        have h2 := head_none hw G.up a la.1
        have h3 := List.length_pos_iff.mpr h2
        have h4 : a.length ≠ 1 := by simpa using la.2
        have := q.length_le
        omega
    rename_i h1
    split
    · rename_i hp
      have ih := den_long n _ (mu_cp hm hne hp) (G.cut (cp_pre hne))
      exact List.pairwise_map.mpr (ih.imp fun h q => h ((List.prefix_append_right_inj _).mp q))
    rename_i hp
    split
    · rename_i hq
      have hcp : cpL (w :: w' :: r) = [] := by simpa using hp
      have ih := den_long n _ (mu_sf hm hne hcp hq) (G.cutE (suf_pre hne))
      refine List.pairwise_map.mpr (ih.imp fun {a b} h q => h ?_)
      have hl := q.length_le
      simp only [List.length_append] at hl
      exact List.prefix_of_prefix_length_le ((List.prefix_append _ _).trans q) (List.prefix_append _ _) (by omega)
    · rename_i hq
      have hp : cpL (w :: w' :: r) = [] := by simpa using hp
      have hm2 := mu_two hm hw hp
      have g1 := G.sub (List.takeWhile_sublist (p := sameHd w) (l := w :: w' :: r))
      have g2 := G.sub (List.dropWhile_sublist (sameHd w) (l := w :: w' :: r))
      refine List.pairwise_append.mpr ⟨den_long n _ hm2.1 g1, den_long n _ hm2.2 g2, fun a ha b hb q => ?_⟩
      have ha := (den_perm n _ hm2.1 g1).mem_iff.mp ha
      have hb := (den_perm n _ hm2.2 g2).mem_iff.mp hb
      obtain ⟨c, w0, rfl⟩ : ∃ c w0, w = c :: w0 := by cases w with | nil => exact absurd rfl hw | cons c w0 => exact ⟨c, w0, rfl⟩
      have sa : sameHd (c :: w0) a = true := take_all ha
      have sb := sameHd_split (c := c) rfl G.up b hb
      obtain ⟨t, rfl⟩ := q
      cases a with
      | nil => exact absurd sa (by simp [sameHd])
      | cons y a =>
        have e1 : y = c := by simpa [sameHd] using sa
        have e2 : ¬ y = c := by simpa [sameHd] using sb
        exact e2 e1

/-- two lists, each with each -/
inductive Each {α β : Type} (P : α → β → Prop) : List α → List β → Prop
  | nil : Each P [] []
  | cons {a : α} {b : β} {l : List α} {m : List β} : P a b → Each P l m → Each P (a :: l) (b :: m)
theorem Each.len {α β : Type} {P : α → β → Prop} : ∀ {l : List α} {m : List β}, Each P l m → l.length = m.length
  | _, _, .nil => rfl
  | _, _, .cons _ h => by simp [h.len]
theorem Each.app {α β : Type} {P : α → β → Prop} : ∀ {l : List α} {m : List β} {l' : List α} {m' : List β}, Each P l m → Each P l' m' → Each P (l ++ l') (m ++ m')
  | _, _, _, _, .nil, h' => h'
  | _, _, _, _, .cons h r, h' => .cons h (r.app h')
theorem Each.snoc {α β : Type} {P : α → β → Prop} {l : List α} {m : List β} {a : α} {b : β} (h : Each P l m) (x : P a b) : Each P (l ++ [a]) (m ++ [b]) := h.app (.cons x .nil)
theorem Each.mono {α β : Type} {P P' : α → β → Prop} (k : ∀ a b, P a b → P' a b) : ∀ {l : List α} {m : List β}, Each P l m → Each P' l m
  | _, _, .nil => .nil
  | _, _, .cons h r => .cons (k _ _ h) (r.mono k)
theorem Each.get {α β : Type} {P : α → β → Prop} : ∀ {l : List α} {m : List β}, Each P l m → ∀ {i : Nat} {a : α}, l[i]? = some a → ∃ b, m[i]? = some b ∧ P a b
  | _, _, .nil, _, _, e => by simp at e
  | _, _, .cons h r, 0, a, e => by simp at e; subst e; exact ⟨_, rfl, h⟩
  | _, _, .cons h r, i + 1, a, e => by simpa using r.get (i := i) (a := a) (by simpa using e)
abbrev Led := List (Addr × Sh)
section
variable {D : List Addr} {g s : Shared} {L : Addr} {m : Str → Option Value} {news : Led}
theorem Fs.perm (F : Fs D g L m news s) {news' : Led} (p : news'.Perm news) : Fs D g L m news' s :=
  ⟨F.ext, F.loc, F.newL, fun q hq => F.led q (p.mem_iff.mp hq), fun q hq => F.own q (p.mem_iff.mp hq), (((p.map (·.1)).cons L).nodup_iff).mpr F.nd⟩
/-- things made by a call -/
structure Made (g s : Shared) (T : Led) : Prop where
  at' : ∀ p ∈ T, p.2.at s.heap p.1
  up : ∀ p ∈ T, g.heap.objs.size ≤ p.1
  nd : (T.map (·.1)).Nodup
theorem Fs.adds {s' : Shared} {m' : Str → Option Value} (F : Fs D g L m news s) (F' : Fs D g L m' news s') {T : Led} (h : Made s s' T) : Fs D g L m' (T ++ news) s' := by
  refine ⟨F'.ext, F'.loc, F'.newL, fun p hp => ?_, fun p hp => ?_, ?_⟩
  · rcases List.mem_append.mp hp with hp | hp
    · exact h.at' p hp
    · exact F'.led p hp
  · rcases List.mem_append.mp hp with hp | hp
    · exact .inr (Nat.le_trans (Nat.le_of_lt (Nat.lt_of_le_of_lt F.newL F.ltL)) (h.up p hp))
    · exact F'.own p hp
  · have h1 := List.nodup_cons.mp F'.nd
    rw [List.map_append, List.nodup_cons]
    have up : ∀ b ∈ T.map (·.1), s.heap.objs.size ≤ b := fun b hb => by
      obtain ⟨p, hp, rfl⟩ := List.mem_map.mp hb
      exact h.up p hp
    refine ⟨fun q => ?_, List.nodup_append.mpr ⟨h.nd, h1.2, fun a ha b hb e => ?_⟩⟩
    · rcases List.mem_append.mp q with q | q
      · exact Nat.lt_irrefl _ (Nat.lt_of_lt_of_le F.ltL (up _ q))
      · exact h1.1 q
    · obtain ⟨p, hp, rfl⟩ := List.mem_map.mp hb
      have h3 := F.lt hp
      have h4 := up a ha
      have e' : a = p.1 := e
      rw [e'] at h4
      exact Nat.lt_irrefl _ (Nat.lt_of_lt_of_le h3 h4)
/-- what a body made, it gives -/
theorem Fs.made {g s : Shared} {L : Addr} {m : Str → Option Value} {news T : Led} (F : Fs [] g L m news s) (h : T.Sublist news) : Made g s T :=
  ⟨fun p hp => F.led p (h.subset hp), fun p hp => (F.own p (h.subset hp)).elim (fun q => nomatch q.1) id, ((List.nodup_cons.mp F.nd).2).sublist (h.map _)⟩
end
section
variable {prog : Program} {w : World} {A : Around} {D : List Addr} {g s : Shared} {L : Addr} {m : Str → Option Value} {news : Led} {env : Env} {E : Value → Shared → Prop} {R : Result → Shared → Prop}
/-- a comprehension over a list, that may make things -/
theorem compGX (F : Fs D g L m news s) (hh : A.handled = none) {a : Addr} {items : Array Value} {nm : Str} {scope : Scope} {cl : List (Str × Addr)} {elt : Expr} {fin : (Str → Option Value) → Addr → Led → Shared → Prop} (J : Nat → List Value → Led → Prop)
    (o : Obj) (ho : ∀ i ys C mC pre nw s', J i ys nw → Fs D g C mC (pre ++ nw) s' → s'.heap.get? a = some o) (hl : s.heap.PlainList a items) (hx : items.size ≤ 100000) (h0 : J 0 [] news)
    (step : ∀ i v ys pre nw C s' E', items[i]? = some v → J i ys nw → Fs D g C (fun y => if y = nm then some v else none) (pre ++ nw) s' →
      wpAny (model prog w) A (eval elt (compEnvC scope cl C env)) (fun y s'' => ∃ nw', J (i + 1) (ys ++ [y]) nw' ∧ Fs D g C (fun y => if y = nm then some v else none) (pre ++ nw') s'') E' s')
    (hfin : ∀ (acc : Addr) (ys : List Value) (nw : Led) (s' : Shared), ys.length = items.size → J items.size ys nw → Fs D g L m ((acc, .list ys.toArray) :: nw) s' → fin m acc ((acc, .list ys.toArray) :: nw) s') :
    wpAny (model prog w) A (pyIter (.ref a)) (CompGo prog w A D g L env nm scope cl elt fin) E s := by
  refine iterL F hl fun I oI s₁ F1 hit he hne => ?_
  have ho0 := ho 0 [] L m [] news s h0 (by simpa using F)
  have hl1 : s₁.heap.IsList a items := by obtain ⟨n, e⟩ := hl; exact ⟨_, he.trans e, rfl, n, rfl⟩
  refine ⟨I, _, _, _, _, _, oI, m, news, fun i ys nw => J i ys.toList nw ∧ ys.size = i, [(a, o)], rfl, listWalks hh hne items, by simp, by simp, fun i h hst => let ⟨⟨o, e, _⟩, _⟩ := hst; ⟨o, e⟩, F1, ⟨hit, hl1⟩, ⟨h0, rfl⟩, hx, ?_, ?_, ?_⟩
  · rintro i ys C mC news' pre s' ⟨hj, _⟩ F' p hp
    rw [List.mem_singleton.mp hp]; exact ho _ _ _ _ _ _ _ hj F'
  · rintro i v ys C acc oL news' o' s' E' hi hv' ⟨hj, hys⟩ hsz F'
    refine wpAny_mono (step i v ys.toList [(I, .raw o'), (acc, .list ys), (L, .raw oL)] news' C s' E' hv' hj F') (fun y s'' h => ?_) fun _ _ e => e
    obtain ⟨nw', hj', F''⟩ := h
    exact ⟨nw', F'', by rw [Array.toList_push]; exact hj', by simp [hys]⟩
  · rintro acc ys news' s' ⟨hj, hys⟩ F'
    exact hfin acc ys.toList news' s' (by simpa using hys) hj F'
/-- for x, y in a list of pairs -/
theorem forP {x1 x2 : Str} {p1 p2 pt : Pos} {k1 : Nat} {body : List Stmt} {a : Addr} {items : Array Value} (J : Nat → (Str → Option Value) → Led → Prop) (o0 : Obj)
    (hh : A.handled = none) (F : Fs D g L m news s) (hl : s.heap.PlainList a items) (h0 : J 0 m news)
    (hfz : ∀ i m pre nw s, J i m nw → Fs D g L m (pre ++ nw) s → s.heap.get? a = some o0)
    (hitem : ∀ (i : Nat) (v : Value) (m : Str → Option Value) (nw : Led), items[i]? = some v → J i m nw → ∃ T x y, v = .ref T ∧ ∀ m' pre s, Fs D g L m' (pre ++ nw) s → s.heap.get? T = some (seqObj "tuple" #[x, y] 0))
    (hL : env.locals = L) (hk : env.scope.kind = .function) (hx1 : env.kindOf x1 = some .local) (hx2 : env.kindOf x2 = some .local)
    (step : ∀ i T x y m nw s I o E', items[i]? = some (.ref T) → s.heap.get? T = some (seqObj "tuple" #[x, y] 0) → J i m nw → Fs D g L (fun z => if z = x2 then some y else if z = x1 then some x else m z) ((I, .raw o) :: nw) s →
      wpAny (model prog w) A (execs body env) (Turn R fun s' => ∃ m' nw', Fs D g L m' ((I, .raw o) :: nw') s' ∧ J (i + 1) m' nw') E' s)
    (fin : ∀ m nw s, J items.size m nw → Fs D g L m nw s → R (.ok .next) s) :
    wpAny (model prog w) A (pyIter (.ref a)) (fun it s₂ => codeAny (model prog w) A (.forLoop (.Tuple [.Name x1 p1, .Name x2 p2] k1 pt) it body [] env) R s₂) E s := by
  refine iterL F hl fun I oI s₁ F1 hit he hne => ?_
  have hl1 : s₁.heap.IsList a items := by obtain ⟨n, e⟩ := hl; exact ⟨_, he.trans e, rfl, n, rfl⟩
  have W := listWalks (prog := prog) (w := w) hh hne items
  refine codeAny_forLoop_any (fun k s' => ∃ i m' nw o', Fs D g L m' ((I, .raw o') :: nw) s' ∧ (s'.heap.IsListIter I a i ∧ s'.heap.IsList a items) ∧ J i m' nw ∧ i ≤ items.size ∧ k = items.size + 1 - i) ?_ (items.size + 1) ⟨0, m, news, oI, F1, ⟨hit, hl1⟩, h0, Nat.zero_le _, rfl⟩
  rintro k s' ⟨i, m', nw, o', F', hst', hJ, hi, rfl⟩
  by_cases hlt : i < items.size
  · refine W.item i _ _ _ hlt hst' fun v h₁ tk₁ hP hst₁ hk₁ => ?_
    obtain ⟨o₁, ho₁, _⟩ := hst₁.1
    have F₁ := F'.iter (tk := tk₁) ho₁ fun b o hb e => hk₁ b o (by simpa using hb) e
    obtain ⟨T, x, y, rfl, hTx⟩ := hitem i v m' nw hP hJ
    have hT := hTx _ [_] _ F₁
    refine wpAny_letOwnedTupleGo_listiter hst₁.1 ?_
    refine wpAny_assign_Tuple hh (items := #[x, y]) ⟨_, hT, rfl, _, rfl⟩ rfl rfl fun h₃ hx₃ => ?_
    have F₃ := F₁.step (s' := { s' with heap := h₃, toks := tk₁ }) (Ext.heap fun b o _ e => hx₃ b o (Nat.ne_of_lt (Heap.lt_size e)) e)
    have hT₃ : h₃.get? T = some (seqObj "tuple" #[x, y] 0) := hx₃ T _ (Nat.ne_of_lt (Heap.lt_size hT)) hT
    have hst₃ : h₃.IsListIter I a (i + 1) ∧ h₃.IsList a items := W.frame _ _ _ hst₁ fun b _ o e => hx₃ b o (Nat.ne_of_lt (Heap.lt_size e)) e
    have ho₃ : h₃.get? I = some o₁ := hx₃ I _ (Nat.ne_of_lt (Heap.lt_size ho₁)) ho₁
    show wpAny _ A (do holding [y] (assign (.Name x1 p1) env x); do holding [] (assign (.Name x2 p2) env y); pure ()) _ _ _
    refine wpAny_bind (wpAny_holding (wpAny_assign_Name (st F₃ (fun s₄ F₄ => ?_) hL hk hx1)))
    refine wpAny_bind (wpAny_holding (wpAny_assign_Name (st F₄ (fun s₅ F₅ => wpAny_pure ?_) hL hk hx2)))
    have hT5 := hTx _ [_] _ F₅
    refine wpAny_mono (step i T x y m' nw s₅ I o₁ _ hP hT5 hJ F₅) (fun f s₆ h₆ => ?_) fun _ _ e => e
    have key : ∀ m₆ nw₆, Fs D g L m₆ ((I, .raw o₁) :: nw₆) s₆ → J (i + 1) m₆ nw₆ → ∃ k, k < items.size + 1 - i ∧ ∃ i m' nw o', Fs D g L m' ((I, .raw o') :: nw) s₆ ∧ (s₆.heap.IsListIter I a i ∧ s₆.heap.IsList a items) ∧ J i m' nw ∧ i ≤ items.size ∧ k = items.size + 1 - i := fun m₆ nw₆ F₆ hJ₆ =>
      ⟨items.size + 1 - (i + 1), by omega, i + 1, m₆, nw₆, o₁, F₆, W.frame _ _ _ hst₃ fun b hb o e => by
        rcases List.mem_cons.mp hb with rfl | hb
        · rw [ho₃] at e; cases e; exact F₆.get (.head _)
        · rw [List.mem_singleton.mp hb] at e ⊢
          have e1 := hfz _ _ [_] _ _ hJ F₁
          have e2 := hx₃ a _ (Nat.ne_of_lt (Heap.lt_size e1)) e1
          rw [e2] at e; cases e
          exact hfz _ _ [_] _ _ hJ₆ F₆, hJ₆, hlt, rfl⟩
    cases f with
    | next => obtain ⟨m₆, nw₆, F₆, hJ₆⟩ := h₆; exact key _ _ F₆ hJ₆
    | cont => obtain ⟨m₆, nw₆, F₆, hJ₆⟩ := h₆; exact key _ _ F₆ hJ₆
    | brk => exact h₆
    | ret v => exact h₆
  · have hin : i = items.size := by omega
    subst hin
    refine W.done _ _ _ hst' fun h₁ tk₁ hk₁ => wpAny_execs_nil ?_
    exact fin _ _ _ hJ (F'.lose fun b o hb e => hk₁ b o (by simpa using hb) e)
end
/-! what the reader made -/
abbrev lone : List Nat := (Str.ofString "one").cps.toList
abbrev lor : List Nat := (Str.ofString "or").cps.toList
abbrev lmaybe : List Nat := (Str.ofString "maybe").cps.toList
/-- a row: things whose meanings multiply -/
def RowAt (P : Value → List (List Nat) → Prop) (T : Led) (v : Value) (R : List (List Nat)) : Prop :=
  ∃ (a : Addr) (its : List Value) (tss : List (List (List Nat))), v = .ref a ∧ (a, Sh.list its.toArray) ∈ T ∧ Each P its tss ∧ R = tss.foldl prod [[]] ∧ (∀ i, Few ((tss.take i).foldl prod [[]])) ∧ its.length ≤ 100000
def RowsAt (P : Value → List (List Nat) → Prop) (T : Led) (v : Value) (ds : List (List Nat)) : Prop :=
  ∃ (a : Addr) (rs : List Value) (Rs : List (List (List Nat))), v = .ref a ∧ (a, Sh.list rs.toArray) ∈ T ∧ Each (RowAt P T) rs Rs ∧ ds = Rs.flatten ∧ Few ds ∧ rs.length ≤ 200000
def RepI (T : Led) : Nat → Value → List (List Nat) → Prop
  | 0 => fun _ _ => False
  | k + 1 => fun v ts => ∃ (a : Addr) (x y : Value), v = .ref a ∧ (a, Sh.raw (seqObj "tuple" #[x, y] 0)) ∈ T ∧ Few ts ∧
    ((∃ t c tc, x = .str (S lone) t ∧ y = .str (S c) tc ∧ ts = [c]) ∨ (∃ t, x = .str (S lor) t ∧ RowsAt (RepI T k) T y ts) ∨ (∃ t us, x = .str (S lmaybe) t ∧ RepI T k y us ∧ ts = us ++ [[]]))
theorem RowAt.mono {P P' : Value → List (List Nat) → Prop} {T T' : Led} (hT : ∀ p ∈ T, p ∈ T') (hP : ∀ v ts, P v ts → P' v ts) {v : Value} {R : List (List Nat)} (h : RowAt P T v R) : RowAt P' T' v R := by
  obtain ⟨a, its, tss, e, ha, h1, h2⟩ := h
  exact ⟨a, its, tss, e, hT _ ha, h1.mono hP, h2⟩
theorem RowsAt.mono {P P' : Value → List (List Nat) → Prop} {T T' : Led} (hT : ∀ p ∈ T, p ∈ T') (hP : ∀ v ts, P v ts → P' v ts) {v : Value} {R : List (List Nat)} (h : RowsAt P T v R) : RowsAt P' T' v R := by
  obtain ⟨a, its, tss, e, ha, h1, h2⟩ := h
  exact ⟨a, its, tss, e, hT _ ha, h1.mono fun _ _ h => h.mono hT hP, h2⟩
theorem RepI.more {T T' : Led} (hT : ∀ p ∈ T, p ∈ T') : ∀ (k : Nat) (v : Value) (ts : List (List Nat)), RepI T k v ts → RepI T' k v ts
  | 0, _, _, h => h.elim
  | k + 1, v, ts, h => by
    obtain ⟨a, x, y, e, ha, hf, h⟩ := h
    refine ⟨a, x, y, e, hT _ ha, hf, ?_⟩
    rcases h with h | ⟨t, e, h⟩ | ⟨t, us, e, h, e2⟩
    · exact .inl h
    · exact .inr (.inl ⟨t, e, h.mono hT (RepI.more hT k)⟩)
    · exact .inr (.inr ⟨t, us, e, RepI.more hT k _ _ h, e2⟩)
theorem RepI.up {T : Led} : ∀ (k : Nat) (v : Value) (ts : List (List Nat)), RepI T k v ts → RepI T (k + 1) v ts
  | 0, _, _, h => h.elim
  | k + 1, v, ts, h => by
    obtain ⟨a, x, y, e, ha, hf, h⟩ := h
    refine ⟨a, x, y, e, ha, hf, ?_⟩
    rcases h with h | ⟨t, e, h⟩ | ⟨t, us, e, h, e2⟩
    · exact .inl h
    · exact .inr (.inl ⟨t, e, h.mono (fun _ h => h) (RepI.up k)⟩)
    · exact .inr (.inr ⟨t, us, e, RepI.up k _ _ h, e2⟩)
theorem RepI.upTo {T : Led} {k : Nat} : ∀ {j : Nat}, k ≤ j → ∀ {v : Value} {ts : List (List Nat)}, RepI T k v ts → RepI T j v ts
  | 0, h, _, _, x => by have : k = 0 := by omega
                        subst this; exact x
  | j + 1, h, v, ts, x => by
    rcases Nat.lt_or_ge k (j + 1) with q | q
    · exact RepI.up j v ts (RepI.upTo (by omega) x)
    · have : k = j + 1 := by omega
      subst this; exact x

section
variable {prog : Program} {w : World} {A : Around} {D : List Addr} {g s : Shared} {L : Addr} {m : Str → Option Value} {news : Led} {env : Env} {E : Value → Shared → Prop} {R : Result → Shared → Prop}
theorem Fs.old0 {T : Led} (F : Fs [] g L m news s) (h : ∀ p ∈ T, p.2.at g.heap p.1) : ∀ p ∈ T, p.2.at s.heap p.1 := fun p hp => Sh.at_keep (h p hp) fun o e => F.old (by simp) e
/-- for x in a list -/
theorem forLs {x : Str} {px : Pos} {body : List Stmt} {a : Addr} {items : Array Value} (J : Nat → (Str → Option Value) → Led → Prop) (o0 : Obj)
    (hh : A.handled = none) (F : Fs D g L m news s) (hl : s.heap.PlainList a items) (h0 : J 0 m news)
    (hfz : ∀ i m pre nw s, J i m nw → Fs D g L m (pre ++ nw) s → s.heap.get? a = some o0)
    (hL : env.locals = L) (hk : env.scope.kind = .function) (hx : env.kindOf x = some .local)
    (step : ∀ i v m nw s I o E', items[i]? = some v → J i m nw → Fs D g L (fun z => if z = x then some v else m z) ((I, .raw o) :: nw) s →
      wpAny (model prog w) A (execs body env) (Turn R fun s' => ∃ m' nw', Fs D g L m' ((I, .raw o) :: nw') s' ∧ J (i + 1) m' nw') E' s)
    (fin : ∀ m nw s, J items.size m nw → Fs D g L m nw s → R (.ok .next) s) :
    wpAny (model prog w) A (pyIter (.ref a)) (fun it s₂ => codeAny (model prog w) A (.forLoop (.Name x px) it body [] env) R s₂) E s := by
  refine iterL F hl fun I oI s₁ F1 hit he hne => ?_
  have hl1 : s₁.heap.IsList a items := by obtain ⟨n, e⟩ := hl; exact ⟨_, he.trans e, rfl, n, rfl⟩
  exact forW J [(a, o0)] (listWalks hh hne items) (by simp) (by simp) (fun i h hst => let ⟨⟨o, e, _⟩, _⟩ := hst; ⟨o, e⟩) F1 ⟨hit, hl1⟩ h0
    (fun i m nw s' o hJ F' p hp => by rw [List.mem_singleton.mp hp]; exact hfz i m [_] nw s' hJ F') hL hk hx
    (fun i v m nw o s E' _ hv hJ F' => step i v m nw s I o E' hv hJ F') fin
end
theorem prod_snoc (R : List (List Nat)) (r : List Nat) (ts : List (List Nat)) : prod (R ++ [r]) ts = prod R ts ++ ts.map (fun t => r ++ t) := by simp [prod]
theorem prod_pre {R ts : List (List Nat)} {i j : Nat} {r : List Nat} (hr : R[i]? = some r) : (prod (R.take i) ts ++ (ts.take j).map (fun t => r ++ t)).Sublist (prod R ts) := by
  have hi := (List.getElem?_eq_some_iff.mp hr).1
  have e : R = R.take i ++ [r] ++ R.drop (i + 1) := by
    have := List.take_append_drop (i + 1) R
    rw [List.take_add_one, hr] at this
    exact this.symm
  have : prod R ts = (prod (R.take i) ts ++ ts.map (fun t => r ++ t)) ++ prod (R.drop (i + 1)) ts := by
    conv => lhs; rw [e]
    simp [prod]
  rw [this]
  exact ((List.Sublist.refl _).append ((List.take_sublist _ _).map _)).trans (List.sublist_append_left _ _)

/-- no code's record -/
def CodeFree (o : Obj) : Prop := ∀ vs, o.data = .fields vs → ∀ q t, vs[1]? ≠ some (.str q t)
section
variable {prog : Program} {w : World} {A : Around} {D : List Addr} {g s : Shared} {L : Addr} {m : Str → Option Value} {news : Led} {env : Env} {E : Value → Shared → Prop} {R : Result → Shared → Prop} {px : Pos}
theorem forWP {x : Str} {body : List Stmt} {I : Addr} {wr : List Addr} {n : Nat} {P : Nat → Value → Prop} {St : Nat → Heap → Prop} {o : Obj} (PO : Obj → Prop) (J : Nat → (Str → Option Value) → Led → Prop)
    (W : Walks prog w A I [I] wr n P St) (hwr : ∀ b ∈ wr, b = I) (hI : ∀ i h, St i h → ∃ o, h.get? I = some o ∧ PO o)
    (F : Fs D g L m ((I, .raw o) :: news) s) (hst : St 0 s.heap) (h0 : J 0 m news)
    (hL : env.locals = L) (hk : env.scope.kind = .function) (hx : env.kindOf x = some .local)
    (step : ∀ i v m news o s E', i < n → P i v → J i m news → PO o → Fs D g L (fun y => if y = x then some v else m y) ((I, .raw o) :: news) s →
      wpAny (model prog w) A (execs body env) (Turn R fun s' => ∃ m' news', Fs D g L m' ((I, .raw o) :: news') s' ∧ J (i + 1) m' news') E' s)
    (fin : ∀ m news s, J n m news → Fs D g L m news s → R (.ok .next) s) :
    codeAny (model prog w) A (.forLoop (.Name x px) (.ref I) body [] env) R s := by
  refine codeAny_forLoop (fun k s' => ∃ i m' news' o', Fs D g L m' ((I, .raw o') :: news') s' ∧ St i s'.heap ∧ J i m' news' ∧ i ≤ n ∧ k = n + 1 - i) ?_ (n + 1) ⟨0, m, news, o, F, hst, h0, Nat.zero_le _, rfl⟩
  rintro k s' ⟨i, m', news', o', F', hst', hJ, hi, rfl⟩
  by_cases hlt : i < n
  · refine W.item i _ _ _ hlt hst' fun v h₁ tk₁ hP hst₁ hk₁ => ?_
    obtain ⟨o₁, ho₁, hpo⟩ := hI _ _ hst₁
    have F₁ := F'.iter (tk := tk₁) ho₁ fun b o hb e => hk₁ b o (fun q => hb (hwr b q)) e
    refine wpAny_assign_Name (st F₁ (fun s₂ F₂ => ?_) hL hk hx)
    have key : ∀ s₃ m₃ news₃, Fs D g L m₃ ((I, .raw o₁) :: news₃) s₃ → J (i + 1) m₃ news₃ → St (i + 1) s₃.heap := fun s₃ m₃ news₃ F₃ hJ₃ => by
      refine W.frame _ _ _ hst₁ fun b hb o e => ?_
      rw [List.mem_singleton.mp hb] at e ⊢
      rw [ho₁] at e; cases e; exact F₃.get (.head _)
    refine wpAny_mono (step i v m' news' o₁ s₂ _ hlt hP hJ hpo F₂) (fun f s₃ h₃ => ?_) fun _ _ e => e
    cases f with
    | next => obtain ⟨m₃, news₃, F₃, hJ₃⟩ := h₃; exact ⟨n + 1 - (i + 1), by omega, i + 1, m₃, news₃, o₁, F₃, key _ _ _ F₃ hJ₃, hJ₃, hlt, rfl⟩
    | cont => obtain ⟨m₃, news₃, F₃, hJ₃⟩ := h₃; exact ⟨n + 1 - (i + 1), by omega, i + 1, m₃, news₃, o₁, F₃, key _ _ _ F₃ hJ₃, hJ₃, hlt, rfl⟩
    | brk => exact h₃
    | ret v => exact h₃
  · have hin : i = n := by omega
    subst hin
    refine W.done _ _ _ hst' fun h₁ tk₁ hk₁ => wpAny_execs_nil ?_
    exact fin _ _ _ hJ (F'.lose fun b o hb e => hk₁ b o (fun q => hb (hwr b q)) e)
/-- for x in range(n), the counter no code -/
theorem forRngP {x : Str} {body : List Stmt} {n : Nat} {tk : Tok} (J : Nat → (Str → Option Value) → Led → Prop) (hh : A.handled = none) (F : Fs D g L m news s) (hn : n ≤ 100000) (h0 : J 0 m news)
    (hL : env.locals = L) (hk : env.scope.kind = .function) (hx : env.kindOf x = some .local)
    (step : ∀ i t m news s I o E', i < n → J i m news → CodeFree o → Fs D g L (fun y => if y = x then some (.int (i : Nat) t) else m y) ((I, .raw o) :: news) s →
      wpAny (model prog w) A (execs body env) (Turn R fun s' => ∃ m' news', Fs D g L m' ((I, .raw o) :: news') s' ∧ J (i + 1) m' news') E' s)
    (fin : ∀ m news s, J n m news → Fs D g L m news s → R (.ok .next) s) :
    wpAny (model prog w) A (call (.type "range") [.int n tk]) (fun xv s₁ => wpAny (model prog w) A (pyIter xv) (fun it s₂ => codeAny (model prog w) A (.forLoop (.Name x px) it body [] env) R s₂) E s₁) E s := by
  refine call_range_1 ?_
  have F1 := (F.step (s' := { s with heap := s.heap.push { cls := .type "range", data := .fields #[.int 0 s.toks, .int n tk, .int 1 (s.toks + 1)] }, toks := s.toks + 1 + 1 }) (Ext.heap fun b o _ e => Heap.get?_push_of_some _ e))
  have hr : IsRange (s.heap.push { cls := .type "range", data := .fields #[.int 0 s.toks, .int n tk, .int 1 (s.toks + 1)] }) s.heap.objs.size 0 n 1 s.toks tk (s.toks + 1) := Heap.get?_push_size _ rfl
  have hrs : Builtin.Range.rangeSize 0 n 1 = n := by unfold Builtin.Range.rangeSize; simp; omega
  have hsm : Builtin.Range.small 0 n 1 = true := by
    have fl : ∀ k : Int, -100 ≤ k → k ≤ 200000 → Builtin.Range.rangeFitsLong k = true := fun k h1 h2 => by
      unfold Builtin.Range.rangeFitsLong
      simp
      omega
    unfold Builtin.Range.small
    rw [hrs, fl 0 (by omega) (by omega), fl n (by omega) (by omega), fl 1 (by omega) (by omega)]
    simp [fl n (by omega) (by omega)]
  refine wpAny_pyIter_range (s := { s with heap := s.heap.push { cls := .type "range", data := .fields #[.int 0 s.toks, .int n tk, .int 1 (s.toks + 1)] }, toks := s.toks + 1 + 1 }) hr hsm ?_
  generalize ({ s with heap := s.heap.push { cls := .type "range", data := .fields #[.int 0 s.toks, .int n tk, .int 1 (s.toks + 1)] }, toks := s.toks + 1 + 1 } : Shared) = s1 at F1 ⊢
  rw [hrs]
  have F2 := F1.push { cls := .type "range_iterator", data := .fields #[rawInt 0, rawInt n, rawInt 1] } (.raw _) s1.toks (Heap.get?_push_size _ rfl)
  have hI : IsRangeIter (s1.heap.push { cls := .type "range_iterator", data := .fields #[rawInt 0, rawInt n, rawInt 1] }) s1.heap.objs.size (0 + ((0 : Nat) : Int) * 1) ((n : Int) - ((0 : Nat) : Int)) 1 := by
    show _ = _
    simp only [Int.natCast_zero, Int.zero_mul, Int.add_zero, Int.sub_zero]
    exact Heap.get?_push_size _ rfl
  refine forWP CodeFree J (Walks.range hh s1.heap.objs.size 0 1 n) (by simp) (fun i h st => ⟨_, st, fun vs e q t q2 => ?_⟩) F2 hI h0 hL hk hx (fun i v m' news' o s' E' hi hP hJ hpo F' => ?_) fin
  · cases e; exact nomatch q2
  · obtain ⟨t, rfl⟩ := hP
    rw [show (0 : Int) + (i : Int) * 1 = (i : Int) by omega] at F'
    exact step i t m' news' s' _ o E' hi hJ hpo F'
/-- a tuple out of a list -/
theorem tupOfL {Q : Value → Shared → Prop} (F : Fs D g L m news s) {l : Addr} {items : Array Value} (hl : s.heap.IsList l items) (hz : items.size ≤ 1000000)
    (h : ∀ a s', Fs D g L m ((a, .raw (seqObj "tuple" items 0)) :: news) s' → Q (.ref a) s') : wpAny (model prog w) A (call (.type "tuple") [.ref l]) Q E s := by
  refine PySem.call_tuple_list hl (fun h' hk => ?_) (by rw [sizeLine_eq]; omega)
  have F1 := F.step (s' := { s with heap := h' }) (Ext.heap fun b o _ e => hk b o e)
  exact h _ _ (F1.push (seqObj "tuple" items 0) (.raw _) s.toks (Heap.get?_push_size _ rfl))
/-- a list backwards -/
theorem revL (_F0 : Fs D g L m news s) {value : Expr} {k : Nat} {p1 p2 p3 : Pos} {pos : Pos} {Q : Value → Shared → Prop}
    (h : wpAny (model prog w) A (eval value env) (fun o s₁ => ∃ (l : Addr) (items : Array Value) (m : Str → Option Value) (news : Led), o = .ref l ∧ s₁.heap.IsList l items ∧ items.size ≤ 1000000 ∧ Fs D g L m news s₁ ∧
      ∀ a s', Fs D g L m ((a, .list items.toList.reverse.toArray) :: news) s' → s₁.heap.objs.size ≤ a → Q (.ref a) s') E s)
    (ht : ∀ o r, letTemporaryGo value o r = pure () := by intro _ _; with_unfolding_all rfl)
    (hs' : ∀ o i, ∃ ops, subscripted (.Slice none none (some (.UnaryOp .USub (.Constant (.int 1) k p1) p2)) p3) false o i = operate ops (getItem o i) := by intro _ _; exact ⟨_, by with_unfolding_all rfl⟩) :
    wpAny (model prog w) A (eval (.Subscript value (.Slice none none (some (.UnaryOp .USub (.Constant (.int 1) k p1) p2)) p3) pos) env) Q E s := by
  refine Subscript_ (wpAny_mono h (fun o s₁ h₁ => ?_) fun _ _ e => e)
  obtain ⟨l, items, m, news, rfl, hl, hz, F, hq⟩ := h₁
  refine wpAny_Slice (wpAny_evalPart_none (wpAny_evalPart_none (wpAny_evalPart_some (wpAny_UnaryOp (wpAny_Constant_int (PyProof.Rows.neg_int ?_))))))
  have hsl : ∀ tk, (s₁.heap.push { cls := .type "slice", data := .fields #[Value.none, Value.none, .int (-1) tk] }).get? s₁.heap.objs.size = some { cls := .type "slice", data := .fields #[Value.none, Value.none, .int (-1) tk] } := fun tk => Heap.get?_push_size _ rfl
  refine revTail (F.step (Ext.heap (s := s₁) fun b o _ e => Heap.get?_push_of_some _ e)) (items := items) (hl.at fun o e => Heap.get?_push_of_some _ e) (hsl _) hz (fun a s' F' ha => hq a s' F' ?_) (hs' _ _) (fun r => ht _ r)
  refine Nat.le_trans ?_ ha
  show _ ≤ (s₁.heap.push _).objs.size
  rw [Heap.size_push]; exact Nat.le_succ _
end

/-- a text ahead of all -/
theorem isCp_front {p : List Nat} {ss : List (List Nat)} (hne : ss ≠ []) {q : List Nat} (h : IsCp ss q) : IsCp (ss.map fun x => p ++ x) (p ++ q) := by
  obtain ⟨x, r, rfl⟩ : ∃ x r, ss = x :: r := by
    cases ss with
    | nil => exact absurd rfl hne
    | cons x r => exact ⟨x, r, rfl⟩
  refine ⟨fun s hs => ?_, fun r' hr => ?_⟩
  · obtain ⟨y, hy, rfl⟩ := List.mem_map.mp hs
    exact (List.prefix_append_right_inj p).mpr (h.1 y hy)
  · have h1 := hr (p ++ x) (List.mem_map_of_mem (f := fun x => p ++ x) (.head _))
    rcases Nat.le_total r'.length p.length with hl | hl
    · exact (List.prefix_of_prefix_length_le h1 (List.prefix_append p x) hl).trans (List.prefix_append p q)
    · obtain ⟨t, rfl⟩ := List.prefix_of_prefix_length_le (List.prefix_append p x) h1 hl
      exact (List.prefix_append_right_inj p).mpr (h.2 t fun s hs => (List.prefix_append_right_inj p).mp (hr _ (List.mem_map_of_mem (f := fun x => p ++ x) hs)))
theorem cpL_front {p : List Nat} {ss : List (List Nat)} (hne : ss ≠ []) : cpL (ss.map fun x => p ++ x) = p ++ cpL ss :=
  ((isCp_front hne (cpL_is hne)).eq (by simpa using hne)).symm
theorem Good.front {us : List (List Nat)} (G : Good us) {p : List Nat} (hz : ∀ w ∈ us, p.length + w.length ≤ 200) : Good (us.map fun x => p ++ x) :=
  ⟨List.pairwise_map.mpr (G.up.imp fun hb q => hb ((app_lt p _ _).mp q)), List.pairwise_map.mpr (G.nd.imp fun hne q => hne (List.append_cancel_left q)), fun w hw => by
    obtain ⟨x, hx, rfl⟩ := List.mem_map.mp hw
    rw [List.length_append]; exact hz x hx, by rw [List.length_map]; exact G.len⟩
/-- where one of them parts -/
theorem isCp_at {ss : List (List Nat)} {x y : List Nat} {i c : Nat} (hx : x ∈ ss) (hall : ∀ s ∈ ss, x.take i <+: s) (hy : y ∈ ss) (hc : x[i]? = some c) (hne : (y.drop i).take 1 ≠ [c]) : IsCp ss (x.take i) := by
  refine ⟨hall, fun q hq => ?_⟩
  have hi := (List.getElem?_eq_some_iff.mp hc).1
  rcases Nat.lt_or_ge i q.length with hl | hl
  · exfalso
    obtain ⟨t, rfl⟩ := hq x hx
    obtain ⟨u, rfl⟩ := hq y hy
    rw [List.getElem?_append_left hl] at hc
    refine hne ?_
    rw [List.drop_append_of_le_length (Nat.le_of_lt hl), List.drop_eq_getElem_cons hl]
    rw [List.getElem?_eq_getElem hl] at hc
    simp [Option.some.inj hc]
  · exact List.prefix_of_prefix_length_le (hq x hx) (List.take_prefix i x) (by rw [List.length_take]; omega)
theorem isCp_all {ss : List (List Nat)} {x : List Nat} (hx : x ∈ ss) (hall : ∀ s ∈ ss, x <+: s) : IsCp ss x := ⟨hall, fun _ hq => hq x hx⟩
theorem pre_more {x s : List Nat} {i c : Nat} (h : x.take i <+: s) (hc : x[i]? = some c) (hs : (s.drop i).take 1 = [c]) : x.take (i + 1) <+: s := by
  have hi := (List.getElem?_eq_some_iff.mp hc).1
  obtain ⟨t, rfl⟩ := h
  have hl : (x.take i).length = i := by rw [List.length_take]; omega
  rw [List.drop_left' hl] at hs
  obtain ⟨t', rfl⟩ : ∃ t', t = c :: t' := by
    cases t with
    | nil => simp at hs
    | cons a r => simp at hs; exact ⟨r, by rw [hs]⟩
  rw [List.take_add_one, hc]
  exact ⟨t', by simp⟩
section
variable {prog : Program} {w : World} {A : Around} {D : List Addr} {g s : Shared} {L : Addr} {m : Str → Option Value} {news : Led} {env : Env} {E : Value → Shared → Prop}
/-- a comprehension over range(n), that may make things -/
theorem compRng (F : Fs D g L m news s) (hh : A.handled = none) {n : Nat} {tk : Tok} {nm : Str} {scope : Scope} {cl : List (Str × Addr)} {elt : Expr} {fin : (Str → Option Value) → Addr → Led → Shared → Prop} (J : Nat → List Value → Led → Prop)
    (hn : n ≤ 100000) (h0 : J 0 [] news)
    (step : ∀ i t ys pre nw C s' E', i < n → J i ys nw → Fs D g C (fun y => if y = nm then some (.int (i : Nat) t) else none) (pre ++ nw) s' →
      wpAny (model prog w) A (eval elt (compEnvC scope cl C env)) (fun y s'' => ∃ nw', J (i + 1) (ys ++ [y]) nw' ∧ Fs D g C (fun y => if y = nm then some (.int (i : Nat) t) else none) (pre ++ nw') s'') E' s')
    (hfin : ∀ (acc : Addr) (ys : List Value) (nw : Led) (s' : Shared), ys.length = n → J n ys nw → Fs D g L m ((acc, .list ys.toArray) :: nw) s' → fin m acc ((acc, .list ys.toArray) :: nw) s') :
    wpAny (model prog w) A (call (.type "range") [.int n tk]) (fun xv s₁ => wpAny (model prog w) A (pyIter xv) (CompGo prog w A D g L env nm scope cl elt fin) E s₁) E s := by
  refine call_range_1 ?_
  have F1 := (F.step (s' := { s with heap := s.heap.push { cls := .type "range", data := .fields #[.int 0 s.toks, .int n tk, .int 1 (s.toks + 1)] }, toks := s.toks + 1 + 1 }) (Ext.heap fun b o _ e => Heap.get?_push_of_some _ e))
  have hr : IsRange (s.heap.push { cls := .type "range", data := .fields #[.int 0 s.toks, .int n tk, .int 1 (s.toks + 1)] }) s.heap.objs.size 0 n 1 s.toks tk (s.toks + 1) := Heap.get?_push_size _ rfl
  have hrs : Builtin.Range.rangeSize 0 n 1 = n := by unfold Builtin.Range.rangeSize; simp; omega
  have hsm : Builtin.Range.small 0 n 1 = true := by
    have fl : ∀ k : Int, -100 ≤ k → k ≤ 200000 → Builtin.Range.rangeFitsLong k = true := fun k h1 h2 => by
      unfold Builtin.Range.rangeFitsLong
      simp
      omega
    unfold Builtin.Range.small
    rw [hrs, fl 0 (by omega) (by omega), fl n (by omega) (by omega), fl 1 (by omega) (by omega)]
    simp [fl n (by omega) (by omega)]
  refine wpAny_pyIter_range (s := { s with heap := s.heap.push { cls := .type "range", data := .fields #[.int 0 s.toks, .int n tk, .int 1 (s.toks + 1)] }, toks := s.toks + 1 + 1 }) hr hsm ?_
  generalize ({ s with heap := s.heap.push { cls := .type "range", data := .fields #[.int 0 s.toks, .int n tk, .int 1 (s.toks + 1)] }, toks := s.toks + 1 + 1 } : Shared) = s1 at F1 ⊢
  rw [hrs]
  have F2 := F1.push { cls := .type "range_iterator", data := .fields #[rawInt 0, rawInt n, rawInt 1] } (.raw _) s1.toks (Heap.get?_push_size _ rfl)
  have hI : IsRangeIter (s1.heap.push { cls := .type "range_iterator", data := .fields #[rawInt 0, rawInt n, rawInt 1] }) s1.heap.objs.size (0 + ((0 : Nat) : Int) * 1) ((n : Int) - ((0 : Nat) : Int)) 1 := by
    show _ = _
    simp only [Int.natCast_zero, Int.zero_mul, Int.add_zero, Int.sub_zero]
    exact Heap.get?_push_size _ rfl
  refine ⟨s1.heap.objs.size, _, _, _, _, _, _, m, news, fun i ys nw => J i ys.toList nw ∧ ys.size = i, [], rfl, Walks.range hh s1.heap.objs.size 0 1 n, by simp, by simp, fun i h hst => ⟨_, hst⟩, F2, hI, ⟨h0, rfl⟩, hn, fun _ _ _ _ _ _ _ _ _ p hp => (List.not_mem_nil hp).elim, ?_, ?_⟩
  · rintro i v ys C acc oL news' o' s' E' hi ⟨t, rfl⟩ ⟨hj, hys⟩ hsz F'
    rw [show (0 : Int) + (i : Int) * 1 = (i : Int) by omega] at F' ⊢
    refine wpAny_mono (step i t ys.toList [(_, .raw o'), (acc, .list ys), (L, .raw oL)] news' C s' E' hi hj F') (fun y s'' h => ?_) fun _ _ e => e
    obtain ⟨nw', hj', F''⟩ := h
    exact ⟨nw', F'', by rw [Array.toList_push]; exact hj', by simp [hys]⟩
  · rintro acc ys news' s' ⟨hj, hys⟩ F'
    exact hfin acc ys.toList news' s' (by simpa using hys) hj F'
/-- a slice of a text that nobody holds -/
theorem subST (_F0 : Fs D g L m news s) {value : Expr} {lower upper : Option Expr} {p pos : Pos} {Q : Value → Shared → Prop}
    (h : wpAny (model prog w) A (eval value env) (fun o s₁ => wpAny (model prog w) A (evalPart lower env) (fun vl s₂ => wpAny (model prog w) A (evalPart upper env) (fun vu s₃ =>
      ∃ (l : List Nat) (t : Tok) (lo hi : Option Int) (m : Str → Option Value) (news : List (Addr × Sh)), o = .str (S l) t ∧ IsPart vl lo ∧ IsPart vu hi ∧ Fs D g L m news s₃ ∧ l.length ≤ 1000000 ∧
        ∀ t' s', Fs D g L m news s' → Q (.str (S (sl lo hi l)) t') s') E s₂) E s₁) E s) :
    wpAny (model prog w) A (eval (.Subscript value (.Slice lower upper none p) pos) env) Q E s := by
  refine Subscript_ (wpAny_mono h (fun o s₁ h₁ => wpAny_Slice (wpAny_mono h₁ (fun vl s₂ h₂ => wpAny_mono h₂ (fun vu s₃ h₃ => ?_) fun _ _ e => e) fun _ _ e => e)) fun _ _ e => e)
  obtain ⟨l, t, lo, hi, m, news, rfl, pl, pu, F, hz, hQ⟩ := h₃
  have e1 : ∃ lo' : Option (Int × Tok), vl = partValue lo' ∧ lo'.map (·.1) = lo := by cases pl with | none => exact ⟨none, rfl, rfl⟩ | int i t => exact ⟨some (i, t), rfl, rfl⟩
  have e2 : ∃ hi' : Option (Int × Tok), vu = partValue hi' ∧ hi'.map (·.1) = hi := by cases pu with | none => exact ⟨none, rfl, rfl⟩ | int i t => exact ⟨some (i, t), rfl, rfl⟩
  obtain ⟨lo', rfl, rfl⟩ := e1
  obtain ⟨hi', rfl, rfl⟩ := e2
  rw [evalPart_none]
  refine wpAny_pure ?_
  refine PyProof.Rows.tail_any (ops := [_, _]) (typeIs_str _ (S l) t) PySem.F.slot_str_getitem.lookup (wpAny_getItem_str_slice (l := lo') (u := hi') (st := none) ⟨_, Heap.get?_push_size _ rfl, rfl, rfl⟩ rfl ?_) rfl
  have key := slicePicked_S l lo' hi'
  unfold sliceMade
  rw [key]
  split
  · rename_i hw
    simp only [Option.map_none, Option.getD_none, beq_self_eq_true, Bool.true_and, beq_iff_eq] at hw
    have e : sl (lo'.map (·.1)) (hi'.map (·.1)) l = l := by
      have h2 : (slicePicked (S l) lo' hi' none).length = hiC l.length (hi'.map (·.1)) - loC l.length (lo'.map (·.1)) := by
        unfold slicePicked; simp only [Option.map_none, Option.getD_none, S_len]; rw [strIdx]; simp
      rw [h2, S_len] at hw
      have h3 := hiC_le l.length (hi'.map (·.1))
      unfold sl
      rw [hw]
      rcases l with _ | ⟨x, r⟩
      · simp
      · have h0 : loC (x :: r).length (lo'.map (·.1)) = 0 := by simp only [List.length_cons] at hw h3 ⊢; omega
        rw [h0, List.drop_zero, List.take_of_length_le (Nat.le_refl _)]
    have hq := hQ t _ (F.slc { cls := .type "slice", data := .fields #[partValue lo', partValue hi', .none] })
    rw [e] at hq
    exact hq
  · refine ⟨?_, hQ _ _ ((F.slc { cls := .type "slice", data := .fields #[partValue lo', partValue hi', .none] }).tk _)⟩
    show (S (sl (lo'.map (·.1)) (hi'.map (·.1)) l)).length ≤ sizeLine
    rw [S_len, sizeLine_eq]
    unfold sl
    rw [List.length_take, List.length_drop]; omega
/-- two pairs of a list of texts and a number, alike -/
theorem neTup {T1 T2 a b : Addr} {xs ys : Array Value} {ss : List (List Nat)} {i : Int} {t u : Tok} {Q : Value → Shared → Prop} (hu : A.units + 1 < cLine) (hT1 : s.heap.IsTuple T1 #[.ref a, .int i t]) (hT2 : s.heap.IsTuple T2 #[.ref b, .int i u])
    (ha : s.heap.IsList a xs) (hb : s.heap.IsList b ys) (hx : SV xs.toList ss) (hy : SV ys.toList ss) (hne : a ≠ b) (h : Q (.bool false) s) : wpAny (model prog w) A (compareOp .NotEq (.ref T1) (.ref T2)) Q E s := by
  have h1 : xs.size = ss.length := by rw [← Array.length_toList]; exact hx.len
  have h2 : ys.size = ss.length := by rw [← Array.length_toList]; exact hy.len
  refine SeqAt.RcNeAt.tuples (e := fun _ => true) hT1 hT2 (by omega) (fun j q1 q2 => ?_) prog w E Q ?_
  · match j, q1, q2 with
    | 0, _, _ =>
      refine SeqAt.EqAt.of_refs hne ?_
      have := SeqAt.RcAt.lists (A := A.in1) (e := fun j => decide (ss[j]? = ss[j]?)) ha hb (by omega) (show A.units + 1 < cLine from hu) (fun j q1 q2 => hx.eqAt hy j q1 q2)
      rwa [show ((List.range xs.size).all fun j => decide (ss[j]? = ss[j]?)) = true by rw [List.all_eq_true]; intro _ _; simp] at this
    | 1, _, _ =>
      have := SeqAt.EqAt.int_int (A := A.in1) (s := s) i t i u
      simpa using this
  · exact h
end

open_top hd1 for PySem.Challenge.rw_ev0004_02

noncomputable abbrev KK (w : World) : Frag := hd1.heap_39 w.params
abbrev pw : Program := PySem.Challenge.pw_ev0004_02
abbrev tabP : Addr := 145
abbrev kmax : Nat := 214
theorem small (w : World) : Small (KK w) tabP kmax where
  keys := by kernel_rfl
  a1 := by decide
  a2 := by decide
  a3 := by decide
def bodyI (i : Nat) : List Stmt := match pw.main.body[i]? with | some (.FunctionDef _ _ b _ _ _ _ _ _ _) => b | _ => []
def parsI (i : Nat) : Arguments := match pw.main.body[i]? with | some (.FunctionDef _ a _ _ _ _ _ _ _ _) => a | _ => default
def scopI (i : Nat) : Scope := match pw.main.body[i]? with | some (.FunctionDef _ _ _ _ _ _ s _ _ _) => s | _ => default
def fdI (i : Nat) (name : Str) (pm cd : Value) : FuncData := fnOf name name (parsI i) (bodyI i) (scopI i) .none .none .none pm none cd .none
theorem ok0 : okD tabP kmax [] := fun _ h => nomatch h
/-- a written text's signs -/
def lit (x : String) : List Nat := (Str.ofString x).cps.toList
/-- a plain def of the text, called -/
theorem callI {prog : Program} {w : World} {A : Around} {s : Shared} {f i : Nat} {name : Str} {pm cd : Value} {vs : List Value} {kw : List (Str × Value)} {d u : Nat} {Post : Value → Shared → Prop} (binds : List (Str × Value)) (D : List Addr)
    (C : Cx A (d + 1) (u + 3)) (W : Wo (KK w) s.heap) (hk : (KK w).lookup f = some ⟨.type "function", none, .func (fdI i name pm cd), #[]⟩) (hcd : codeIn (KK w) cd name = true)
    (hbind : bindArgs (fdI i name pm cd) ⟨vs, kw⟩ = pure binds) (hcell : ((scopI i).names.all fun x => x.2 != .cell) = true) (hloc : (binds.all fun x => (scopI i).names.lookup x.1 == some .local) = true)
    (hco : (scopI i).isCoroutine = false) (hgen : (scopI i).isGenerator = false) (hkf : (scopI i).kind = .function)
    (h : ∀ s₁ A', Cx A' d u → Fs D s s.heap.objs.size (lk binds.reverse) [] s₁ → wpAny (model prog w) A' (execs (bodyI i) (callEnv (fdI i name pm cd) s.heap.objs.size f)) (fun fl s' => Post (retOf fl) s') (fun _ _ => False) s₁) :
    codeAny (model prog w) A (.call (.ref f) ⟨vs, kw⟩) (Ret Post) s := by
  refine callF D (by have := C.dp; omega) (W.X f _ hk) rfl W.lim (codeRec_of W.X hcd) rfl (BindsTo.of_eq hbind) (fun x hx => ?_) (fun x hx => ?_) hco hgen hkf fun s₁ F => ?_
  · have := List.all_eq_true.mp hcell x hx; simpa using this
  · have := List.all_eq_true.mp hloc x hx; exact beq_iff_eq.mp this
  · exact wpAny_mono (h s₁ _ C.deeper F) (fun fl s' hp => ⟨_, rfl, hp⟩) fun _ _ e => e.elim
def clsB (i : Nat) : List Stmt := match pw.main.body[i]? with | some (.ClassDef _ _ _ b _ _ _ _ _ _ _) => b | _ => []
def bodyM (i j : Nat) : List Stmt := match (clsB i)[j]? with | some (.FunctionDef _ _ b _ _ _ _ _ _ _) => b | _ => []
def parsM (i j : Nat) : Arguments := match (clsB i)[j]? with | some (.FunctionDef _ a _ _ _ _ _ _ _ _) => a | _ => default
def scopM (i j : Nat) : Scope := match (clsB i)[j]? with | some (.FunctionDef _ _ _ _ _ _ s _ _ _) => s | _ => default
def fdM (i j : Nat) (name qual : Str) (df pm cd : Value) : FuncData := fnOf name qual (parsM i j) (bodyM i j) (scopM i j) df .none .none pm none cd .none

variable {bb : Nat}
set_option hygiene false in
local macro_rules | `(tactic| walk_at "nm") => `(tactic| first
  | refine ld F rfl ?_
  | refine ldgS F W (small _) hD rfl ?_
  | refine ldG F W (small _) hD rfl ?_
  | refine ldC F (by first | exact .head _ | exact .tail _ (.head _) | exact .tail _ (.tail _ (.head _)) | exact .tail _ (.tail _ (.tail _ (.head _))) | exact .tail _ (.tail _ (.tail _ (.tail _ (.head _))))) rfl ?_
  | refine ldB F W (small _) hD rfl (by first | exact boot_len | exact boot_range | exact boot_sorted | exact boot_min | exact boot_max | exact boot_enumerate | exact boot_set | exact boot_list | exact boot_tuple | exact boot_iter | exact boot_next | exact boot_type | exact boot_abs) ?_)
set_option hygiene false in
local macro_rules | `(tactic| walk_at "m") => `(tactic| first
  | ((with_reducible show wpAny _ _ (eval (Expr.Name _ _) _) _ _ _); walk_at "nm")
  | ((with_reducible show wpAny _ _ (eval (Expr.Constant (Const.str _) _ _) _) _ _ _); refine cS F (S_of _) ?_; clear F; intro t s F)
  | ((with_reducible show wpAny _ _ (eval (Expr.Constant (Const.int _) _ _) _) _ _ _); refine cI F ?_; clear F; intro t s F)
  | ((with_reducible show wpAny _ _ (eval (Expr.Constant (Const.bool _) _ _) _) _ _ _); refine wpAny_Constant_bool ?_)
  | ((with_reducible show wpAny _ _ (eval (Expr.Constant Const.none _ _) _) _ _ _); refine wpAny_Constant_none ?_)
  | ((with_reducible show wpAny _ _ (eval (Expr.BinOp _ _ _ _) _) _ _ _); refine wpAny_BinOp ?_)
  | ((with_reducible show wpAny _ _ (eval (Expr.Compare _ [_] [_] _) _) _ _ _); refine wpAny_Compare1 ?_)
  | ((with_reducible show wpAny _ _ (eval (Expr.IfExp _ _ _ _) _) _ _ _); refine wpAny_IfExp ?_)
  | ((with_reducible show wpAny _ _ (eval (Expr.BoolOp BoolOp.And (_ :: _ :: _) _) _) _ _ _); refine BoolOp_and ?_)
  | ((with_reducible show wpAny _ _ (eval (Expr.BoolOp BoolOp.Or (_ :: _ :: _) _) _) _ _ _); refine BoolOp_or ?_)
  | ((with_reducible show wpAny _ _ (eval (Expr.BoolOp _ [_] _) _) _ _ _); refine BoolOp_one ?_)
  | ((with_reducible show wpAny _ _ (eval (Expr.UnaryOp _ _ _) _) _ _ _); refine wpAny_UnaryOp ?_)
  | ((with_reducible show wpAny _ _ (eval (Expr.Call (Expr.Attribute _ _ _) _ [] _) _) _ _ _); refine MethodCall_ ?_)
  | ((with_reducible show wpAny _ _ (eval (Expr.Call _ _ [] _) _) _ _ _); refine Call_ ?_)
  | ((with_reducible show wpAny _ _ (eval (Expr.Tuple _ _ _) _) _ _ _); refine Tuple_ ?_)
  | ((with_reducible show wpAny _ _ (eval (Expr.List _ _) _) _ _ _); refine List_ ?_)
  | ((with_reducible show wpAny _ _ (evalPart none _) _ _ _); refine wpAny_evalPart_none ?_)
  | ((with_reducible show wpAny _ _ (evalPart (some _) _) _ _ _); refine wpAny_evalPart_some ?_)
  | ((with_reducible show wpAny _ _ (isTrue (Expr.Compare _ [_] [_] _) _ _) _ _ _); refine wpAny_isTrue_Compare1 ?_)
  | ((with_reducible show wpAny _ _ (isTrue (Expr.UnaryOp UnaryOp.Not _ _) _ _) _ _ _); refine wpAny_isTrue_Not ?_)
  | ((with_reducible show wpAny _ _ (isTrue (Expr.BoolOp _ _ _) _ _) _ _ _); refine wpAny_isTrue_BoolOp ?_)
  | ((with_reducible show wpAny _ _ (isTrue _ _ _) _ _ _); refine wpAny_isTrue_value ?_)
  | ((with_reducible show wpAny _ _ (allTrue BoolOp.Or [] _) _ _ _); refine wpAny_allTrue_Or_nil ?_)
  | ((with_reducible show wpAny _ _ (allTrue BoolOp.Or (_ :: _) _) _ _ _); refine wpAny_allTrue_Or_cons ?_)
  | ((with_reducible show wpAny _ _ (allTrue BoolOp.And [] _) _ _ _); refine wpAny_allTrue_And_nil ?_)
  | ((with_reducible show wpAny _ _ (allTrue BoolOp.And (_ :: _) _) _ _ _); refine wpAny_allTrue_And_cons ?_)
  | ((with_reducible show wpAny _ _ (spliced (backTo _ (starEach [] _))) _ _ _); refine nil_args ?_)
  | ((with_reducible show wpAny _ _ (spliced (backTo _ (starEach (_ :: _) _))) _ _ _); refine cons_args ?_)
  | ((with_reducible show wpAny _ _ (callWith _ (Value.builtin _) _ (backTo _ (starEach (_ :: _) _)) []) _ _ _); refine callB ?_)
  | ((with_reducible show wpAny _ _ (callWith _ (Value.type _) [] (backTo _ (starEach (_ :: _) _)) []) _ _ _); refine PyProof.Rows.callWith_type1 ?_)
  | ((with_reducible show wpAny _ _ (eval (Expr.Subscript _ (Expr.Name _ _) _) _) _ _ _); refine Subscript_ ?_)
  | ((with_reducible show wpAny _ _ (eval (Expr.Subscript _ (Expr.Constant _ _ _) _) _) _ _ _); refine Subscript_ ?_)
  | ((with_reducible show wpAny _ _ (eval (Expr.Subscript _ (Expr.BinOp _ _ _ _) _) _) _ _ _); refine Subscript_ ?_)
  | ((with_reducible show wpAny _ _ (eval (Expr.Subscript _ (Expr.Call _ _ _ _) _) _) _ _ _); refine Subscript_ ?_)
  | ((with_reducible show wpAny _ _ (callWith _ _ _ (backTo _ (starEach (_ :: _) _)) []) _ _ _); refine callW (K := KK w) (by kernel_rfl) ?_)
  | ((with_reducible show _ ∧ wpAny _ _ (call _ _) _ _ _); refine ⟨(W.ext (small _) hD F.ext).X, ?_⟩)
  | ((with_reducible show wpAny _ _ (truthy (Value.bool _)) _ _ _); refine wpAny_truthy_bool ?_)
  | ((with_reducible show wpAny _ _ (execs [] _) _ _ _); refine wpAny_execs_nil ?_)
  | ((with_reducible show wpAny _ _ (exec (Stmt.Return none _) _) _ _ _); refine wpAny_Return_none ?_)
  | ((with_reducible show wpAny _ _ (exec (Stmt.Return (some _) _) _) _ _ _); refine wpAny_Return_some ?_)
  | ((with_reducible show wpAny _ _ (exec (Stmt.If _ _ _ _) _) _ _ _); refine wpAny_If ?_)
  | ((with_reducible show wpAny _ _ (exec (Stmt.Assign [Expr.Name _ _] _ _) _) _ _ _); refine wpAny_Assign_Name ?_)
  | ((with_reducible show wpAny _ _ (exec (Stmt.Assign [Expr.Attribute _ _ _] _ _) _) _ _ _); refine plainObj_wpAny_Assign_Attribute ?_)
  | ((with_reducible show wpAny _ _ (exec (Stmt.Assign [Expr.Tuple _ _ _] (Expr.Call _ _ _ _) _) _) _ _ _); refine Assign_Tuple ?_)
  | ((with_reducible show wpAny _ _ (exec (Stmt.Break _) _) _ _ _); refine wpAny_Break ?_)
  | ((with_reducible show wpAny _ _ (exec (Stmt.Expr _ _) _) _ _ _); refine wpAny_Expr_any ?_)
  | ((with_reducible show wpAny _ _ (eval (Expr.Attribute (Expr.Name _ _) _ _) _) _ _ _); refine Attribute_Name_ ?_)
  | ((with_reducible show wpAny _ _ (compareOp CmpOp.Is (Value.bool _) (Value.bool _)) _ _ _); refine PyProof.Rows.is_bool ?_)
  | ((with_reducible show wpAny _ _ (compareOp CmpOp.Eq (Value.bool _) (Value.bool _)) _ _ _); refine PyProof.Rows.eq_bool ?_)
  | ((with_reducible show wpAny _ _ (compareOp CmpOp.Is _ Value.none) _ _ _); refine PyProof.Rows.is_none_gen ?_)
  | ((with_reducible show wpAny _ _ (storeName _ _ _) _ _ _); refine st F ?_; clear F; intro s F)
  | ((with_reducible show wpAny _ _ (compareOp CmpOp.Eq (Value.str _ _) (Value.str _ _)) _ _ _); refine eqS ?_)
  | ((with_reducible show wpAny _ _ (compareOp CmpOp.NotEq (Value.str _ _) (Value.str _ _)) _ _ _); refine neS ?_)
  | ((with_reducible show wpAny _ _ (compareOp CmpOp.In (Value.str (S [_]) _) (Value.str _ _)) _ _ _); refine inS ?_)
  | ((with_reducible show wpAny _ _ (compareOp CmpOp.Eq (Value.int _ _) (Value.int _ _)) _ _ _); refine PyProof.Rows.eq_int ?_)
  | ((with_reducible show wpAny _ _ (compareOp CmpOp.NotEq (Value.int _ _) (Value.int _ _)) _ _ _); refine PyProof.Rows.ne_int ?_)
  | ((with_reducible show wpAny _ _ (compareOp CmpOp.Lt (Value.int _ _) (Value.int _ _)) _ _ _); refine PyProof.Rows.lt_int ?_)
  | ((with_reducible show wpAny _ _ (compareOp CmpOp.Gt (Value.int _ _) (Value.int _ _)) _ _ _); refine PyProof.Rows.gt_int ?_)
  | ((with_reducible show wpAny _ _ (binaryOp Operator.Add (Value.int _ _) (Value.int _ _)) _ _ _); refine intAdd F ?_; clear F; intro t s F)
  | ((with_reducible show wpAny _ _ (binaryOp Operator.Sub (Value.int _ _) (Value.int _ _)) _ _ _); refine intSub F ?_; clear F; intro t s F)
  | ((with_reducible show wpAny _ _ (unaryOp UnaryOp.USub (Value.int _ _)) _ _ _); refine intNeg F ?_; clear F; intro t s F)
  | ((with_reducible show wpAny _ _ (getMethod (Value.str _ _) (Str.ofString "join") _) _ _ _); refine PySem.GM.join ?_)
  | ((with_reducible show wpAny _ _ (getMethod (Value.str _ _) (Str.ofString "startswith") _) _ _ _); refine PySem.GM.startswith ?_)
  | ((with_reducible show wpAny _ _ (execs _ _) _ _ _); refine wpAny_execs_cons ?_))
set_option hygiene false in
local macro_rules | `(tactic| walk_at "nargs") => `(tactic| repeat (first | ((with_reducible show wpAny _ _ (eval _ _) _ _ _); walk_at "m") | ((with_reducible show wpAny _ _ (spliced _) _ _ _); walk_at "m")))
set_option hygiene false in
local macro_rules | `(tactic| walk_at "go") => `(tactic| repeat walk_at "m")

theorem lit_nil : lit "" = [] := by decide +kernel
theorem lit_bs : (Str.ofString "\\").cps.toList = [92] := by decide +kernel
theorem joined_nil (ss : List (List Nat)) : joined [] ss = ss.flatten := by
  induction ss with
  | nil => rfl
  | cons a r ih =>
    cases r with
    | nil => simp [joined]
    | cons b r => rw [joined, ih]
                  · simp
                  · simp
theorem escC_len (c : Nat) : (escC c).length ≤ 2 := by unfold escC; split <;> simp
theorem esc_sum : ∀ x : List Nat, ((x.map escC).map (·.length)).sum ≤ 2 * x.length
  | [] => by simp
  | a :: r => by
    have h1 := esc_sum r
    have h2 := escC_len a
    rw [List.map_cons, List.map_cons, List.sum_cons, List.length_cons]
    show (escC a).length + _ ≤ _
    omega
theorem k_escape (w : World) : ∃ pm, (KK w).lookup 26 = some ⟨.type "function", none, .func (fdI 4 "escape" pm (.ref 25)), #[]⟩ := ⟨_, rfl⟩
theorem escape_spec {w : World} {A : Around} {s : Shared} (C : Cx A 2 20) (W : Wo (KK w) s.heap) {x : List Nat} {t : Tok} (hx : x.length ≤ 10000) :
    codeAny (model pw w) A (.call (.ref 26) ⟨[.str (S x) t], []⟩) (Ret fun v s' => (∃ t', v = .str (S (esc x)) t') ∧ Ext [] s s') s := by
  obtain ⟨pm, hk⟩ := k_escape w
  refine callI [("text", .str (S x) t)] [] (d := 1) (u := 17) C W hk (by kernel_rfl) rfl rfl rfl rfl rfl rfl fun s₁ A C F => ?_
  have hD := ok0
  walk_at "m"
  walk_at "m"
  walk_at "m"
  walk_at "m"
  refine PySem.GM.join ?_
  walk_at "m"
  walk_at "m"
  refine comp_eval F [] rfl (by decide) rfl (by decide) rfl ?_
  walk_at "m"
  refine compS F C.hh escC (by omega) (fun c t pre C' s E' hc F => ?_) (fun acc ys s hv F => ?_)
  · walk_at "m"
    walk_at "m"
    walk_at "m"
    walk_at "m"
    walk_at "m"
    walk_at "m"
    split
    · rename_i h
      have h : c ∈ escSet := of_decide_eq_true h
      walk_at "m"
      walk_at "m"
      walk_at "m"
      refine addS F (by simp [lit_bs]) ?_
      clear F; intro t' s F
      exact ⟨⟨_, by rw [escC, if_pos h]; rfl⟩, F⟩
    · rename_i h
      have h : ¬ c ∈ escSet := fun q => h (decide_eq_true q)
      walk_at "m"
      exact ⟨⟨_, by rw [escC, if_neg h]⟩, F⟩
  · walk_at "m"
    have hlen := esc_sum x
    refine joinL F (F.get (.head _)) (by simpa using hv) (by rw [List.length_map]; show _ + _ * (lit "").length ≤ _; rw [lit_nil, List.length_nil]; omega) ?_
    intro t' s F
    refine ⟨⟨t', ?_⟩, F.ext⟩
    show Value.str (S (joined (lit "") _)) t' = _
    rw [lit_nil, joined_nil]; rfl

theorem k_charset (w : World) : ∃ pm, (KK w).lookup 38 = some ⟨.type "function", none, .func (fdI 6 "make_charset" pm (.ref 37)), #[]⟩ := ⟨_, rfl⟩
theorem lit_lb : (Str.ofString "[").cps.toList = [91] := by decide +kernel
theorem lit_rb : (Str.ofString "]").cps.toList = [93] := by decide +kernel
theorem csC_len (c : Nat) : (csC c).length ≤ 2 := by unfold csC; split <;> simp
theorem cs_sum : ∀ x : List Nat, ((x.map csC).map (·.length)).sum ≤ 2 * x.length
  | [] => by simp
  | a :: r => by
    have h1 := cs_sum r
    have h2 := csC_len a
    rw [List.map_cons, List.map_cons, List.sum_cons, List.length_cons]
    show (csC a).length + _ ≤ _
    omega
theorem flat_sum : ∀ ss : List (List Nat), ss.flatten.length = (ss.map (·.length)).sum
  | [] => rfl
  | a :: r => by rw [List.flatten_cons, List.length_append, flat_sum r, List.map_cons, List.sum_cons]
theorem charset_spec {w : World} {A : Around} {s : Shared} (C : Cx A 2 20) (W : Wo (KK w) s.heap) {a : Addr} {items : Array Value} {ss : List (List Nat)} (hl : s.heap.PlainList a items) (hv : SV items.toList ss) (hx : (ss.map (·.length)).sum ≤ 10000) :
    codeAny (model pw w) A (.call (.ref 38) ⟨[.ref a], []⟩) (Ret fun v s' => (∃ t', v = .str (S (csOf ss.flatten)) t') ∧ Ext [] s s') s := by
  obtain ⟨pm, hk⟩ := k_charset w
  refine callI [("letters", .ref a)] [] (d := 1) (u := 17) C W hk (by kernel_rfl) rfl rfl rfl rfl rfl rfl fun s₁ A C F => ?_
  have hD := ok0
  obtain ⟨n, hn⟩ := hl
  walk_at "go"
  refine comp_eval F [] rfl (by decide) rfl (by decide) rfl ?_
  walk_at "go"
  refine joinL F ⟨n, F.old (by simp) hn⟩ hv (by show _ + _ * (lit "").length ≤ _; rw [lit_nil, List.length_nil]; omega) ?_
  clear F; intro t s F
  rw [show joined (Str.ofString "").cps.toList ss = ss.flatten from (by show joined (lit "") ss = _; rw [lit_nil, joined_nil])]
  have hfl := flat_sum ss
  generalize ss.flatten = y at *
  refine compS F C.hh csC (by omega) (fun c t pre C' s E' hc F => ?_) (fun acc ys s hv F => ?_)
  · iterate 6 walk_at "m"
    split
    · rename_i h
      have h : c ∈ csSet := of_decide_eq_true h
      iterate 3 walk_at "m"
      refine addS F (by simp [lit_bs]) ?_
      clear F; intro t' s F
      exact ⟨⟨_, by rw [csC, if_pos h]; rfl⟩, F⟩
    · rename_i h
      have h : ¬ c ∈ csSet := fun q => h (decide_eq_true q)
      walk_at "m"
      exact ⟨⟨_, by rw [csC, if_neg h]⟩, F⟩
  · walk_at "m"
    have hlen := cs_sum y
    refine joinL F (F.get (.head _)) (by simpa using hv) (by rw [List.length_map]; show _ + _ * (lit "").length ≤ _; rw [lit_nil, List.length_nil]; omega) ?_
    clear F; intro t' s F
    rw [show joined (Str.ofString "").cps.toList (y.map csC) = y.flatMap csC from (by show joined (lit "") _ = _; rw [lit_nil, joined_nil]; rfl)]
    have hlen2 : (y.flatMap csC).length ≤ 20000 := by
      rw [List.flatMap_def, flat_sum]; omega
    refine addS F (by simp only [lit_lb, List.length_cons, List.length_nil]; omega) ?_
    clear F; intro t s F
    walk_at "m"
    refine addS F (by simp only [lit_lb, lit_rb, List.length_append, List.length_cons, List.length_nil]; omega) ?_
    clear F; intro t s F
    exact ⟨⟨t, by rw [lit_lb, lit_rb]; rfl⟩, F.ext⟩

theorem k_cp (w : World) : ∃ pm, (KK w).lookup 33 = some ⟨.type "function", none, .func (fdI 5 "commonprefix" pm (.ref 32)), #[]⟩ := ⟨_, rfl⟩
theorem cp_spec {w : World} {A : Around} {s : Shared} (C : Cx A 2 20) (W : Wo (KK w) s.heap) {a : Addr} {items : Array Value} {ss : List (List Nat)} (hl : s.heap.PlainList a items) (hv : SV items.toList ss) (hx : ∀ x ∈ ss, x.length ≤ 10000) (hz : ss.length ≤ 10000) :
    codeAny (model pw w) A (.call (.ref 33) ⟨[.ref a], []⟩) (Ret fun v s' => (∃ x t, v = .str (S x) t ∧ (ss = [] → x = []) ∧ (ss ≠ [] → IsCp ss x)) ∧ Ext [] s s') s := by
  obtain ⟨pm, hk⟩ := k_cp w
  refine callI [("m", .ref a)] [] (d := 1) (u := 17) C W hk (by kernel_rfl) rfl rfl rfl rfl rfl rfl fun s₁ A C F => ?_
  have hD := ok0
  obtain ⟨n, hn⟩ := hl
  have hzi : items.size = ss.length := by rw [← Array.length_toList]; exact hv.len
  walk_at "go"
  refine truL F (items := items) (Heap.PlainList.isList ⟨n, F.old (by simp) hn⟩) (by omega) ?_
  clear F; intro s F
  split
  · rename_i h
    have hnil : ss = [] := by
      have : items.isEmpty = true := by simpa using h
      cases ss with
      | nil => rfl
      | cons => simp at this; subst this; simp at hzi
    iterate 3 walk_at "m"
    exact ⟨⟨_, _, rfl, fun _ => by show lit "" = []; exact lit_nil, fun q => absurd hnil q⟩, F.ext⟩
  rename_i h
  have hne0 : ss ≠ [] := by
    rintro rfl
    exact h (by simp at hzi; subst hzi; rfl)
  walk_at "go"
  refine minL F C.hh ⟨n, F.old (by simp) hn⟩ hv hne0 fun s1 t1 s hs1 hs1' F => ?_
  walk_at "go"
  refine maxL F C.hh ⟨n, F.old (by simp) hn⟩ hv hne0 fun s2 t2 s hs2 hs2' F => ?_
  walk_at "go"
  refine wpAny_For ?_
  walk_at "go"
  refine enumS F fun e it oe oi s F he hit => ?_
  refine wpAny_pyIter_enum he ?_
  refine forE (fun i m nw => nw = [] ∧ AllK m [("s1", .str (S s1) t1), ("s2", .str (S s2) t2)] ∧ s1.take i = s2.take i) C.hh F he hit ⟨rfl, ⟨rfl, rfl, trivial⟩, rfl⟩ rfl rfl rfl rfl ?_ ?_
  · rintro i c ti tc m nw s oe oi E' hc ⟨rfl, hm, hi⟩ F
    replace F := F.as [("c", .str (S [c]) tc), ("i", .int (i : Nat) ti), ("s1", .str (S s1) t1), ("s2", .str (S s2) t2)] ⟨rfl, rfl, hm.1, hm.2.1, trivial⟩
    obtain ⟨d, hd⟩ := lt_at (hs1' s2 hs2) hi hc
    have hlen := hx s1 hs1
    have hlen2 := hx s2 hs2
    walk_at "go"
    refine itemS F (c := d) (by omega) (by omega) (by simpa using hd) ?_
    clear F; intro t s F
    walk_at "go"
    split
    · rename_i hne
      have hne : c ≠ d := by simpa using hne
      walk_at "go"
      refine subS F ?_
      walk_at "go"
      refine ⟨_, _, _, _, _, _, rfl, .none, .int _ _, F, by omega, fun t s F => ?_⟩
      exact ⟨⟨_, _, rfl, fun q => absurd q hne0, fun _ => by rw [sl_to, ← lcp_cut hi hc hd hne]; exact IsCp.of hs1 hs1' hs2 hs2'⟩, F.ext⟩
    · rename_i hne
      have hne : c = d := by simpa using hne
      subst hne
      walk_at "go"
      exact ⟨_, _, F, rfl, ⟨rfl, rfl, trivial⟩, by rw [List.take_add_one, List.take_add_one, hi, hc, hd]⟩
  · rintro m nw s ⟨rfl, hm, hi⟩ F
    replace F := F.as [("s1", .str (S s1) t1), ("s2", .str (S s2) t2)] ⟨hm.1, hm.2.1, trivial⟩
    have hp : s1 <+: s2 := by
      rw [List.take_of_length_le (Nat.le_refl _)] at hi
      rw [hi]; exact List.take_prefix _ _
    walk_at "go"
    exact ⟨⟨_, _, rfl, fun q => absurd q hne0, fun _ => by rw [← lcp_all hp]; exact IsCp.of hs1 hs1' hs2 hs2'⟩, F.ext⟩

theorem kbig (w : World) : ∃ o, (KK w).lookup 213 = some o := ⟨_, rfl⟩
theorem Wo.big {w : World} {h : Heap} (W : Wo (KK w) h) : kmax ≤ h.objs.size := by
  obtain ⟨o, e⟩ := kbig w
  exact Nat.succ_le_of_lt (Heap.lt_size (W.X _ _ e))
theorem k_pull (w : World) : ∃ pm, (KK w).lookup 45 = some ⟨.type "function", none, .func (fdI 8 "_pull" pm (.ref 44)), #[]⟩ := ⟨_, rfl⟩
theorem own_li {g : Shared} {it l : Addr} {i : Nat} (h : g.heap.get? it = some (liO l i)) : Own [it] g it := .inl ⟨by simp, fun o e es ep q => by rw [h] at e; cases e; cases q⟩
theorem own_lie {g : Shared} {it : Addr} {i : Nat} (h : g.heap.get? it = some (liE i)) : Own [it] g it := .inl ⟨by simp, fun o e es ep q => by rw [h] at e; cases e; cases q⟩
theorem okD1 {a : Addr} (h : kmax ≤ a) : okD tabP kmax [a] := fun b hb => by rw [List.mem_singleton.mp hb]; exact .inr (.inr h)
theorem pull_item {w : World} {A : Around} {s : Shared} (C : Cx A 2 20) (W : Wo (KK w) s.heap) {it l : Addr} {i : Nat} {items : Array Value} {x : Value} (hit : s.heap.get? it = some (liO l i)) (hl : s.heap.PlainList l items) (hx : items[i]? = some x) (hne : l ≠ it) (hk : kmax ≤ it) :
    codeAny (model pw w) A (.call (.ref 45) ⟨[.ref it], []⟩) (Ret fun v s' => (∃ T, v = .ref T ∧ s'.heap.get? T = some (seqObj "tuple" #[.bool true, x] 0) ∧ s.heap.objs.size ≤ T) ∧ s'.heap.get? it = some (liO l (i + 1)) ∧ Ext [it] s s') s := by
  obtain ⟨pm, hkf⟩ := k_pull w
  refine callK [it] (d := 1) (u := 17) C W hkf (by kernel_rfl) rfl (BindsTo.of_eq (binds := [("it", .ref it)]) rfl) rfl rfl rfl rfl rfl fun s₁ C X F => ?_
  have hD := okD1 hk
  have hitL : it ≠ s.heap.objs.size := Nat.ne_of_lt (Heap.lt_size hit)
  replace F := F.put (x := .raw (liO l i)) (a := it) (X.keep it _ (by simp) hit) (own_li hit) hitL (fun _ h => nomatch h)
  obtain ⟨nl, hl⟩ := hl
  show wpAny _ _ (execs [.Try _ _ _ _ _] _) _ _ _
  refine wpAny_execs_cons ?_
  refine Try_X ?_
  walk_at "go"
  refine next_item (F.get (x := .raw (liO l i)) (.head _)) (Heap.PlainList.isList ⟨nl, F.ext.keep l _ (by simpa using hne) hl⟩) hx fun h' hi' hs' => ?_
  have F := F.iter (tk := s₁.toks) (h' := h') hi' fun b o hb e => (hs'.2 b hb).trans e
  generalize ({ s₁ with heap := h', toks := s₁.toks } : Shared) = s at F ⊢
  walk_at "go"
  have hlt := F.ltL
  refine newT F (by simp) fun T s F hT => ?_
  exact ⟨_, rfl, ⟨T, rfl, F.get (x := .raw _) (.head _), Nat.le_trans (Nat.le_of_lt hlt) hT⟩, F.get (x := .raw _) (.tail _ (.head _)), F.ext⟩
theorem pull_end {w : World} {A : Around} {s : Shared} (C : Cx A 2 20) (W : Wo (KK w) s.heap) (U : Up kmax A s.heap) {it : Addr} {i : Nat} (hit : (∃ l items, s.heap.get? it = some (liO l i) ∧ s.heap.PlainList l items ∧ items[i]? = none ∧ l ≠ it) ∨ s.heap.get? it = some (liE i)) (hk : kmax ≤ it) :
    codeAny (model pw w) A (.call (.ref 45) ⟨[.ref it], []⟩) (Ret fun v s' => (∃ T, v = .ref T ∧ s'.heap.get? T = some (seqObj "tuple" #[.bool false, .none] 0) ∧ s.heap.objs.size ≤ T) ∧ s'.heap.get? it = some (liE i) ∧ Ext ([it] ++ frs A) s s') s := by
  obtain ⟨pm, hkf⟩ := k_pull w
  have hown : Own [it] s it ∧ ∃ o, s.heap.get? it = some o := by
    rcases hit with ⟨l, _, e, _⟩ | e
    · exact ⟨own_li e, _, e⟩
    · exact ⟨own_lie e, _, e⟩
  obtain ⟨hown, oi, hoi⟩ := hown
  refine callK [it] (d := 1) (u := 17) C W hkf (by kernel_rfl) rfl (BindsTo.of_eq (binds := [("it", .ref it)]) rfl) rfl rfl rfl rfl rfl fun s₁ C X F => ?_
  have hD := okD1 hk
  have hD2 : okD tabP kmax ([it] ++ frs A) := fun b hb => by
    rcases List.mem_append.mp hb with h | h
    · exact hD b h
    · exact .inr (.inr (U.mem h).1)
  have hitL : it ≠ s.heap.objs.size := Nat.ne_of_lt (Heap.lt_size hoi)
  replace F := F.put (x := .raw oi) (a := it) (X.keep it _ (by simp) hoi) hown hitL (fun _ h => nomatch h)
  show wpAny _ _ (execs [.Try _ _ _ _ _] _) _ _ _
  refine wpAny_execs_cons ?_
  refine Try_X ?_
  walk_at "go"
  have hbig := W.big
  rcases hit with ⟨l, items, e, hl, hx, hne⟩ | e
  · obtain ⟨nl, hl⟩ := hl
    rw [hoi] at e; cases e
    refine next_end C.hh (F.get (x := .raw _) (.head _)) (Heap.PlainList.isList ⟨nl, X.keep l _ (by simp) hl⟩) hx fun h₁ h' e hi' hs' hm => ?_
    have F := F.iter (tk := s₁.toks) (h' := h₁) hi' fun b o hb e => (hs'.2 b hb).trans e
    refine catchStop (s := { s₁ with heap := h₁, toks := s₁.toks }) F U (by decide) hbig rfl rfl hm (fun s' M' Q' F hq => ldB F W (small _) hD2 rfl boot_stop hq) (by passes_own) (fun s F => ?_)
    walk_at "go"
    have hlt := F.ltL
    refine newT F (by simp) fun T s F hT => ?_
    exact ⟨_, rfl, ⟨T, rfl, F.get (x := .raw _) (.head _), Nat.le_trans (Nat.le_of_lt hlt) hT⟩, F.get (x := .raw _) (.tail _ (.head _)), F.ext⟩
  · rw [hoi] at e; cases e
    refine next_over C.hh (F.get (x := .raw _) (.head _)) fun h' e hm => ?_
    have hi' : s₁.heap.get? it = some (liE i) := F.get (x := .raw _) (.head _)
    have hs' := Heap.SameBut.refl it s₁.heap
    have F := F.iter (tk := s₁.toks) (h' := s₁.heap) hi' fun b o hb e => (hs'.2 b hb).trans e
    refine catchStop (s := { s₁ with heap := s₁.heap, toks := s₁.toks }) F U (by decide) hbig rfl rfl hm (fun s' M' Q' F hq => ldB F W (small _) hD2 rfl boot_stop hq) (by passes_own) (fun s F => ?_)
    walk_at "go"
    have hlt := F.ltL
    refine newT F (by simp) fun T s F hT => ?_
    exact ⟨_, rfl, ⟨T, rfl, F.get (x := .raw _) (.head _), Nat.le_trans (Nat.le_of_lt hlt) hT⟩, F.get (x := .raw _) (.tail _ (.head _)), F.ext⟩

theorem k_same (w : World) : ∃ pm, (KK w).lookup 52 = some ⟨.type "function", none, .func (fdI 9 "_same" pm (.ref 51)), #[]⟩ := ⟨_, rfl⟩
theorem same_spec {w : World} {A : Around} {s : Shared} (C : Cx A 2 20) (W : Wo (KK w) s.heap) {a b : Bool} :
    codeAny (model pw w) A (.call (.ref 52) ⟨[.bool a, .bool b], []⟩) (Ret fun v s' => v = .bool (a == b) ∧ Ext [] s s') s := by
  obtain ⟨pm, hk⟩ := k_same w
  refine callI [("a", .bool a), ("b", .bool b)] [] (d := 1) (u := 17) C W hk (by kernel_rfl) rfl rfl rfl rfl rfl rfl fun s₁ A C F => ?_
  have hD := ok0
  walk_at "go"
  split
  · rename_i h
    walk_at "go"
    exact ⟨congrArg Value.bool h.symm, F.ext⟩
  · rename_i h
    walk_at "go"
    rw [if_neg h]
    walk_at "go"
    exact ⟨congrArg Value.bool (Bool.eq_false_iff.mpr h).symm, F.ext⟩

set_option hygiene false in
local macro_rules | `(tactic| walk_at "slotok") => `(tactic| exact ⟨by kernel_rfl, by kernel_rfl, rfl, by kernel_rfl, by kernel_rfl, by kernel_rfl, by kernel_rfl, by kernel_rfl, by kernel_rfl, by kernel_rfl, by decide⟩)
theorem so_cg (w : World) : SlotOk (KK w) 93 94 "_currgrouper" 0 := by walk_at "slotok"
theorem so_ck (w : World) : SlotOk (KK w) 93 95 "_currkey" 1 := by walk_at "slotok"
theorem so_cv (w : World) : SlotOk (KK w) 93 96 "_currvalue" 2 := by walk_at "slotok"
theorem so_hk (w : World) : SlotOk (KK w) 93 97 "_has_currkey" 3 := by walk_at "slotok"
theorem so_hv (w : World) : SlotOk (KK w) 93 98 "_has_currvalue" 4 := by walk_at "slotok"
theorem so_ht (w : World) : SlotOk (KK w) 93 99 "_has_tgtkey" 5 := by walk_at "slotok"
theorem so_it (w : World) : SlotOk (KK w) 93 100 "_it" 6 := by walk_at "slotok"
theorem so_kf (w : World) : SlotOk (KK w) 93 101 "_keyfunc" 7 := by walk_at "slotok"
theorem so_se (w : World) : SlotOk (KK w) 93 102 "_serial" 8 := by walk_at "slotok"
theorem so_tk (w : World) : SlotOk (KK w) 93 103 "_tgtkey" 9 := by walk_at "slotok"
theorem so_nu (w : World) : SlotOk (KK w) 138 139 "_number" 0 := by walk_at "slotok"
theorem so_pa (w : World) : SlotOk (KK w) 138 140 "_parent" 1 := by walk_at "slotok"
theorem so_gt (w : World) : SlotOk (KK w) 138 141 "_tgtkey" 2 := by walk_at "slotok"
abbrev gbS (cg ck cv hk hv ht it kf se tk : Value) : Array (Option Value) := #[some cg, some ck, some cv, some hk, some hv, some ht, some it, some kf, some se, some tk]
abbrev grS (nu pa tk : Value) : Array (Option Value) := #[some nu, some pa, some tk]
def FunAt (h : Heap) (a : Addr) : Prop := ∃ c d fd sl, h.get? a = some ⟨c, d, .func fd, sl⟩
theorem keeps_fun {M : Model} {a : Addr} (h : Heap) (e : FunAt h a) : ∃ k, (k = Keeper.frame ∨ k = Keeper.machine ∨ k = Keeper.boundFrame) ∧ Looks M h (keeperOf (.ref a)) k := by
  obtain ⟨c, d, fd, sl, e⟩ := e
  exact ⟨.frame, .inl rfl, (Looks.ld (part := none) e).andThen .now⟩
/-- the function of the keys -/
structure Key (w : World) (D : List Addr) (g : Shared) (lam : Addr) (key : Value → Bool) (ok : Value → Prop) : Prop where
  fn : ∀ s', Ext D g s' → FunAt s'.heap lam
  run : ∀ A' s' v, ok v → Cx A' 2 20 → Ext D g s' → Wo (KK w) s'.heap → codeAny (model pw w) A' (.call (.ref lam) ⟨[v], []⟩) (Ret fun r s'' => r = .bool (key v) ∧ Ext [] s' s'') s'
theorem Key.on {w : World} {D : List Addr} {g s : Shared} {lam : Addr} {key : Value → Bool} {ok : Value → Prop} (h : Key w D g lam key ok) (x : Ext D g s) : Key w D s lam key ok :=
  ⟨fun s' y => h.fn s' (x.trans y), fun A' s' v a b c d => h.run A' s' v a b (x.trans c) d⟩
theorem Key.less {w : World} {D D' : List Addr} {g : Shared} {lam : Addr} {key : Value → Bool} {ok : Value → Prop} (h : Key w D g lam key ok) (x : ∀ d ∈ D', d ∈ D) : Key w D' g lam key ok :=
  ⟨fun s' y => h.fn s' (y.mono x), fun A' s' v a b c d => h.run A' s' v a b (c.mono x) d⟩
theorem callFun {prog : Program} {w : World} {A : Around} {E : Value → Shared → Prop} {s : Shared} {env : Env} {pos : Pos} {f : Addr} {first : List Value} {e : Expr} {rest : List Expr} {Q : Value → Shared → Prop}
    (h : wpAny (model prog w) A (spliced (backTo pos (starEach (e :: rest) env))) (fun vs s₁ => FunAt s₁.heap f ∧ wpAny (model prog w) A (call (.ref f) (first ++ vs)) Q E s₁) E s)
    (he : starEach (e :: rest) env = (false, eval e env) :: starEach rest env := by rfl) (hplain : (backTo pos (starEach rest env)).any (·.1) = false := by rfl) :
    wpAny (model prog w) A (callWith pos (.ref f) first (backTo pos (starEach (e :: rest) env)) []) Q E s := by
  rw [he] at h ⊢
  exact callWith_of (P := fun h => FunAt h f) (by show ((false || (backTo pos (starEach rest env)).any (·.1)) || false) = false; rw [hplain]; rfl) keeps_fun (evalArgs_plain h)

theorem k_step (w : World) : ∃ pm, (KK w).lookup 82 = some ⟨.type "function", none, .func (fdM 10 3 "_step" "groupby._step" .none pm (.ref 81)), #[]⟩ := ⟨_, rfl⟩
theorem own_sl {D : List Addr} {g : Shared} {x C dx : Addr} {sl : Array (Option Value)} (hD : x ∈ D) (h : g.heap.get? x = some (slO C dx sl)) : Own D g x := .inl ⟨hD, fun o e es ep q => by rw [h] at e; cases e; cases q⟩
theorem own_lo {D : List Addr} {g : Shared} {it l : Addr} {i : Nat} (hD : it ∈ D) (h : g.heap.get? it = some (liO l i)) : Own D g it := .inl ⟨hD, fun o e es ep q => by rw [h] at e; cases e; cases q⟩
theorem own_le {D : List Addr} {g : Shared} {it : Addr} {i : Nat} (hD : it ∈ D) (h : g.heap.get? it = some (liE i)) : Own D g it := .inl ⟨hD, fun o e es ep q => by rw [h] at e; cases e; cases q⟩
theorem okD2 {a b : Addr} (h : kmax ≤ a) (h' : kmax ≤ b) : okD tabP kmax [a, b] := fun c hc => by
  rcases List.mem_cons.mp hc with rfl | hc
  · exact .inr (.inr h)
  · rw [List.mem_singleton.mp hc]; exact .inr (.inr h')
theorem okDf {D : List Addr} {A : Around} {h : Heap} (hD : okD tabP kmax D) (U : Up kmax A h) : okD tabP kmax (D ++ frs A) := fun b hb => by
  rcases List.mem_append.mp hb with h | h
  · exact hD b h
  · exact .inr (.inr (U.mem h).1)
theorem Up.notD {A : Around} {h : Heap} (U : Up kmax A h) {b : Addr} {o : Obj} (e : h.get? b = some o) (hd : ∀ es ep, o.data ≠ .dict es ep) : b ∉ frs A := fun q => by
  obtain ⟨_, m, o', es, ep, ho, hd', _⟩ := U.mem q
  rw [e] at ho; cases ho; exact hd es ep hd'
theorem step_item {w : World} {A : Around} {s : Shared} (C : Cx A 4 60) (W : Wo (KK w) s.heap) {x it l dx lam : Addr} {cg ck cv hk hv ht se tk v : Value} {i : Nat} {items : Array Value} {key : Value → Bool} {ok : Value → Prop}
    (hgb : s.heap.get? x = some (slO 93 dx (gbS cg ck cv hk hv ht (.ref it) (.ref lam) se tk))) (hdx : DicE s.heap dx) (hit : s.heap.get? it = some (liO l i)) (hl : s.heap.PlainList l items) (hx : items[i]? = some v) (hok : ok v) (hln : l ≠ it) (hlx : l ≠ x)
    (K : Key w [x, it] s lam key ok) (hkx : kmax ≤ x) (hki : kmax ≤ it) :
    codeAny (model pw w) A (.call (.ref 82) ⟨[.ref x], []⟩) (Ret fun _ s' => s'.heap.get? x = some (slO 93 dx (gbS cg (.bool (key v)) v (.bool true) (.bool true) ht (.ref it) (.ref lam) se tk)) ∧ s'.heap.get? it = some (liO l (i + 1)) ∧ Ext [x, it] s s') s := by
  obtain ⟨pm, hkf⟩ := k_step w
  refine callK [x, it] (d := 3) (u := 57) C W hkf (by kernel_rfl) rfl (BindsTo.of_eq (binds := [("self", .ref x)]) rfl) rfl rfl rfl rfl rfl fun s₁ C X F => ?_
  have hD := okD2 hkx hki
  have hxi : it ≠ x := fun q => by rw [q, hgb] at hit; cases hit
  replace F := F.put (x := .raw (liO l i)) (a := it) (X.keep it _ (by simp) hit) (own_lo (by simp) hit) (Nat.ne_of_lt (Heap.lt_size hit)) (fun _ h => nomatch h)
  replace F := F.put (x := .raw (slO 93 dx _)) (a := x) (X.keep x _ (by simp) hgb) (own_sl (by simp) hgb) (Nat.ne_of_lt (Heap.lt_size hgb)) (fun p h => by rw [List.mem_singleton.mp h]; exact hxi)
  obtain ⟨nl, hl⟩ := hl
  show wpAny _ _ (execs (_ :: _) _) _ _ _
  walk_at "go"
  refine getG F W (small _) hD (so_it w) (F.get (x := .raw _) (.head _)) hdx rfl ?_
  clear F; intro s F
  walk_at "go"
  refine use (pull_item (C.mono (by omega) (by omega)) (W.ext (small _) hD F.ext) (F.get (x := .raw _) (.tail _ (.head _))) ⟨nl, F.old (by simp [hln, hlx]) hl⟩ hx hln hki) fun r s' hr => ?_
  obtain ⟨⟨T, rfl, hT, hTn⟩, hit', X'⟩ := hr
  have hTL := Nat.lt_of_lt_of_le F.ltL hTn
  have hxk := X'.keep x _ (by simp; exact Ne.symm hxi) (F.get (x := .raw _) (.head _))
  replace F := F.re [(x, .raw _), (it, .raw (liO l (i + 1)))] rfl X' (one_of (k := kmax) (by simpa using hki) (by decide)) (fun d hd => .inr (by simp at hd; simp [hd])) ⟨hxk, hit', trivial⟩
  refine tup2 C.hh F hT ?_
  clear F; intro s F
  walk_at "go"
  rw [if_neg (by decide)]
  walk_at "go"
  refine getG F W (small _) hD (so_kf w) (F.get (x := .raw _) (.head _)) hdx rfl ?_
  clear F; intro s F
  walk_at "go"
  rw [if_neg (show ¬ ((Value.ref lam == Value.none) = true) from Bool.false_ne_true)]
  walk_at "go"
  refine methS F W (small _) hD (so_kf w) (F.get (x := .raw _) (.head _)) hdx rfl ?_
  clear F; intro s F
  refine callFun ?_
  walk_at "nargs"
  refine ⟨K.fn _ F.ext, use (K.run _ _ _ hok (C.mono (by omega) (by omega)) F.ext (W.ext (small _) hD F.ext)) fun r s hr => ?_⟩
  obtain ⟨rfl, X2⟩ := hr
  have F := F.step X2
  walk_at "go"
  refine setG (sl' := gbS cg ck v hk hv ht (.ref it) (.ref lam) se tk) [] _ F rfl W (small _) hD (so_cv w) hdx rfl ?_
  clear F; intro s F
  walk_at "go"
  refine setG (sl' := gbS cg ck v hk (.bool true) ht (.ref it) (.ref lam) se tk) [] _ F rfl W (small _) hD (so_hv w) hdx rfl ?_
  clear F; intro s F
  walk_at "go"
  refine setG (sl' := gbS cg (.bool (key v)) v hk (.bool true) ht (.ref it) (.ref lam) se tk) [] _ F rfl W (small _) hD (so_ck w) hdx rfl ?_
  clear F; intro s F
  walk_at "go"
  refine setG (sl' := gbS cg (.bool (key v)) v (.bool true) (.bool true) ht (.ref it) (.ref lam) se tk) [] _ F rfl W (small _) hD (so_hk w) hdx rfl ?_
  clear F; intro s F
  walk_at "go"
  exact ⟨_, rfl, F.get (x := .raw _) (.head _), F.get (x := .raw _) (.tail _ (.head _)), F.ext⟩
theorem step_end {w : World} {A : Around} {g : Shared} (C : Cx A 4 60) (W : Wo (KK w) g.heap) (U : Up kmax A g.heap) {x it dx : Addr} {cg ck cv hk hv ht kf se tk : Value} {i : Nat}
    (hgb : g.heap.get? x = some (slO 93 dx (gbS cg ck cv hk hv ht (.ref it) kf se tk))) (hdx : DicE g.heap dx) (hit : (∃ l items, g.heap.get? it = some (liO l i) ∧ g.heap.PlainList l items ∧ items[i]? = none ∧ l ≠ it) ∨ g.heap.get? it = some (liE i)) (hki : kmax ≤ it) :
    codeAny (model pw w) A (.call (.ref 82) ⟨[.ref x], []⟩) (fun r s' => Thr ([it] ++ frs A) g r s' ∧ s'.heap.get? x = some (slO 93 dx (gbS cg ck cv hk hv ht (.ref it) kf se tk)) ∧ s'.heap.get? it = some (liE i)) g := by
  obtain ⟨pm, hkf⟩ := k_step w
  have hown : Own [it] g it ∧ ∃ o, g.heap.get? it = some o ∧ ∀ es ep, o.data ≠ .dict es ep := by
    rcases hit with ⟨l, _, e, _⟩ | e
    · exact ⟨own_li e, _, e, fun _ _ q => nomatch q⟩
    · exact ⟨own_lie e, _, e, fun _ _ q => nomatch q⟩
  obtain ⟨hown, oi, hoi, hoid⟩ := hown
  have hxi : it ≠ x := fun q => by
    rw [q] at hit
    rcases hit with ⟨l, _, e, _⟩ | e <;> (rw [hgb] at e; cases e)
  refine callK [it] (d := 3) (u := 57) C W hkf (by kernel_rfl) rfl (BindsTo.of_eq (binds := [("self", .ref x)]) rfl) rfl rfl rfl rfl rfl fun s₁ C X F => ?_
  have hD := okDf (okD1 hki) U
  have hbig := W.big
  replace F := F.put (x := .raw oi) (a := it) (X.keep it _ (by simp) hoi) hown (Nat.ne_of_lt (Heap.lt_size hoi)) (fun _ h => nomatch h)
  replace F := F.moreD (D' := [it] ++ frs A) (fun d hd => List.mem_append_left _ hd)
  have hxD : x ∉ [it] ++ frs A := fun q => by
    rcases List.mem_append.mp q with h | h
    · exact hxi (List.mem_singleton.mp h).symm
    · exact U.notD hgb (fun _ _ q => nomatch q) h
  show wpAny _ _ (execs (_ :: _) _) _ _ _
  walk_at "go"
  refine getG F W (small _) hD (so_it w) (F.old hxD hgb) hdx rfl ?_
  clear F; intro s F
  walk_at "go"
  have U' := U.deep F (env := callEnv (fdM 10 3 "_step" "groupby._step" .none pm (.ref 81)) g.heap.objs.size 82) hbig
  refine use (pull_end (i := i) (C.mono (by omega) (by omega)) (W.ext (small _) hD F.ext) U' ?_ hki) fun r s' hr => ?_
  · rcases hit with ⟨l, items, e, ⟨nl, hl⟩, e2, e3⟩ | e
    · rw [hoi] at e; cases e
      exact .inl ⟨l, items, F.get (x := .raw _) (.head _), ⟨nl, F.old (fun q => by
        rcases List.mem_append.mp q with h | h
        · exact e3 (List.mem_singleton.mp h)
        · exact U.notD hl (fun _ _ q => nomatch q) h) hl⟩, e2, e3⟩
    · rw [hoi] at e; cases e
      exact .inr (F.get (x := .raw _) (.head _))
  obtain ⟨⟨T, rfl, hT, hTn⟩, hit', X'⟩ := hr
  replace F := F.reU [(it, .raw (liE i))] rfl U (by decide) hbig rfl X' (by simpa using hki) (fun d hd => .inr (by simp at hd; simp [hd])) ⟨hit', trivial⟩
  refine tup2 C.hh F hT ?_
  clear F; intro s F
  walk_at "go"
  rw [if_pos (by decide)]
  refine wpAny_execs_cons ?_
  refine owsi_raiseC C.hh (ldB F W (small _) hD rfl boot_stop ⟨rfl, rfl⟩) fun h' e hm => ?_
  have hal : ∀ b ∈ [it] ++ frs A, ∃ o, s.heap.get? b = some o := fun b hb => by
    rcases List.mem_append.mp hb with h | h
    · rw [List.mem_singleton.mp h]; exact ⟨_, F.get (x := .raw _) (.head _)⟩
    · exact alive_frs U F.ext b h
  refine throwNew (env := callEnv (fdM 10 3 "_step" "groupby._step" .none pm (.ref 81)) g.heap.objs.size 82) (R := fun r s' => Thr ([it] ++ frs A) g r s' ∧ s'.heap.get? x = some (slO 93 dx (gbS cg ck cv hk hv ht (.ref it) kf se tk)) ∧ s'.heap.get? it = some (liE i)) F (fun b hb => .inl (hal b hb)) U (by decide) hbig rfl rfl hm (gone_of F.ext hal hm.new) fun r s' hthr hold => ⟨hthr.mono (fun d hd => (List.mem_append.mp hd).elim id fun h => List.mem_append_right _ h), ?_, ?_⟩
  · exact hold x _ (not_frs U rfl (Nat.le_refl _) hgb (fun _ _ q => nomatch q)) (fun q => by unfold Gone at q; rw [hgb] at q; cases q) (F.old hxD hgb)
  · exact hold it _ (not_frs U rfl (Nat.le_refl _) hoi hoid) (fun q => by unfold Gone at q; rw [hoi] at q; cases q) (F.get (x := .raw _) (.head _))

theorem k_grinit (w : World) : ∃ pm, (KK w).lookup 120 = some ⟨.type "function", none, .func (fdM 11 1 "__init__" "_grouper.__init__" .none pm (.ref 119)), #[]⟩ := ⟨_, rfl⟩
theorem gr_init {w : World} {A : Around} {g : Shared} (C : Cx A 2 20) (W : Wo (KK w) g.heap) {y dy x dx : Addr} {key cg ck cv hk hv ht it kf tk : Value} {n : Int} {t0 : Tok}
    (hy : g.heap.get? y = some (slO 138 dy #[])) (hdy : DicE g.heap dy) (hgb : g.heap.get? x = some (slO 93 dx (gbS cg ck cv hk hv ht it kf (.int n t0) tk))) (hdx : DicE g.heap dx) (hkx : kmax ≤ x) (hky : kmax ≤ y) :
    codeAny (model pw w) A (.call (.ref 120) ⟨[.ref y, .ref x, key], []⟩) (Ret fun v s' => v = .none ∧ (∃ t, s'.heap.get? y = some (slO 138 dy (grS (.int (n + 1) t) (.ref x) key)) ∧ s'.heap.get? x = some (slO 93 dx (gbS (.int (n + 1) t) ck cv hk hv ht it kf (.int (n + 1) t) tk))) ∧ Ext [x, y] g s') g := by
  obtain ⟨pm, hkf⟩ := k_grinit w
  refine callK [x, y] (d := 1) (u := 17) C W hkf (by kernel_rfl) rfl (BindsTo.of_eq (binds := [("self", .ref y), ("parent", .ref x), ("tgtkey", key)]) rfl) rfl rfl rfl rfl rfl fun s₁ C X F => ?_
  have hD := okD2 hkx hky
  have hyx : y ≠ x := fun q => by rw [q, hgb] at hy; cases hy
  replace F := F.put (x := .raw (slO 138 dy #[])) (a := y) (X.keep y _ (by simp) hy) (own_sl (by simp) hy) (Nat.ne_of_lt (Heap.lt_size hy)) (fun _ h => nomatch h)
  replace F := F.put (x := .raw (slO 93 dx _)) (a := x) (X.keep x _ (by simp) hgb) (own_sl (by simp) hgb) (Nat.ne_of_lt (Heap.lt_size hgb)) (fun p h => by rw [List.mem_singleton.mp h]; exact hyx)
  show wpAny _ _ (execs (_ :: _) _) _ _ _
  walk_at "go"
  obtain ⟨od, _, hod, _⟩ := hdx.soft F.ext
  refine kto_own (C := 93) (od := some od) ⟨F.get (x := .raw _) (.head _), rfl, rfl, hod⟩ ?_
  walk_at "go"
  refine wpAny_isNot_ref_self ?_
  walk_at "go"
  rw [if_neg (by decide)]
  walk_at "go"
  refine setG (sl' := #[none, some (.ref x)]) [(x, _)] _ F rfl W (small _) hD (so_pa w) hdy rfl ?_
  clear F; intro s F
  walk_at "go"
  refine setG (sl' := #[none, some (.ref x), some key]) [(x, _)] _ F rfl W (small _) hD (so_gt w) hdy rfl ?_
  clear F; intro s F
  walk_at "go"
  refine wpAny_AugAssign_AttributeAny ?_
  walk_at "go"
  refine getG F W (small _) hD (so_se w) (F.get (x := .raw _) (.head _)) hdx rfl ?_
  clear F; intro s F
  walk_at "go"
  refine PySem.P.iadd_int ?_
  replace F := F.tk (s.toks + 1)
  refine setG (sl' := gbS cg ck cv hk hv ht it kf (.int (n + 1) s.toks) tk) [] _ F rfl W (small _) hD (so_se w) hdx rfl ?_
  generalize s.toks = tt at F ⊢
  clear F; intro s F
  walk_at "go"
  refine getG F W (small _) hD (so_se w) (F.get (x := .raw _) (.head _)) hdx rfl ?_
  clear F; intro s F
  walk_at "go"
  refine setG (sl' := grS (.int (n + 1) tt) (.ref x) key) [(x, _)] _ F rfl W (small _) hD (so_nu w) hdy rfl ?_
  clear F; intro s F
  walk_at "go"
  refine getG F W (small _) hD (so_se w) (F.get (x := .raw _) (.head _)) hdx rfl ?_
  clear F; intro s F
  walk_at "go"
  refine setG (sl' := gbS (.int (n + 1) tt) ck cv hk hv ht it kf (.int (n + 1) tt) tk) [] _ F rfl W (small _) hD (so_cg w) hdx rfl ?_
  clear F; intro s F
  walk_at "go"
  exact ⟨_, rfl, rfl, ⟨tt, F.get (x := .raw _) (.tail _ (.head _)), F.get (x := .raw _) (.head _)⟩, F.ext⟩
theorem Cx.typ {A : Around} {d u : Nat} {C : Addr} {vals : List Value} {kw : List (Str × Value)} (c : Cx A (d + 1) (u + 10)) : Cx (A.under (.builtin "type.__call__" ⟨.ref C :: vals, kw⟩)) d u :=
  ⟨c.hh, (by have := c.dp; show A.depth + 1 + d < _; omega), (by
    have h1 := c.un
    have h2 : (Code.builtin "type.__call__" ⟨.ref C :: vals, kw⟩).cUnits = 1 := rfl
    show A.units + Code.cUnits _ + u < _
    omega)⟩
theorem gr_make {w : World} {A : Around} {g : Shared} (C : Cx A 3 40) (W : Wo (KK w) g.heap) {x dx : Addr} {key cg ck cv hk hv ht it kf tk : Value} {n : Int} {t0 : Tok}
    (hgb : g.heap.get? x = some (slO 93 dx (gbS cg ck cv hk hv ht it kf (.int n t0) tk))) (hdx : DicE g.heap dx) (hkx : kmax ≤ x) :
    codeAny (model pw w) A (.call (.ref 138) ⟨[.ref x, key], []⟩) (Ret fun v s' => (∃ y dy t, v = .ref y ∧ g.heap.objs.size ≤ y ∧ g.heap.objs.size ≤ dy ∧ s'.heap.get? y = some (slO 138 dy (grS (.int (n + 1) t) (.ref x) key)) ∧ DicE s'.heap dy ∧
      s'.heap.get? x = some (slO 93 dx (gbS (.int (n + 1) t) ck cv hk hv ht it kf (.int (n + 1) t) tk))) ∧ Ext [x] g s') g := by
  have hbig := W.big
  have hs : Ext [] g { g with heap := (g.heap.push emptyDict).push (instObj 138 g.heap.objs.size), toks := g.toks } := Ext.heap fun b o _ e => Heap.get?_push_of_some _ (Heap.get?_push_of_some _ e)
  have h1 : ((g.heap.push emptyDict).push (instObj 138 g.heap.objs.size)).get? (g.heap.objs.size + 1) = some (slO 138 g.heap.objs.size #[]) := by
    have := Heap.get?_push_size (o := instObj 138 g.heap.objs.size) (g.heap.push emptyDict) rfl
    rwa [Heap.size_push] at this
  have h2 : DicE ((g.heap.push emptyDict).push (instObj 138 g.heap.objs.size)) g.heap.objs.size := ⟨emptyDict, 0, Heap.get?_push_of_some _ (Heap.get?_push_size _ rfl), rfl⟩
  refine make_core (h := g.heap) (g := g.gens) (d := g.drawn) (t := g.toks) (os := g.os) (makes_of W.X (by kernel_rfl)) (looks_findIn W.X (name := "__init__") (r := some (.ref 120)) rfl) (fun self => bind_fn W.X self (by kernel_rfl)) (.inl rfl) ?_
  refine codeAny_mono (gr_init (A := A.under _) (g := { g with heap := (g.heap.push emptyDict).push (instObj 138 g.heap.objs.size), toks := g.toks }) (C.typ.mono (by omega) (by omega)) (W.ext (small _) ok0 hs) (y := g.heap.objs.size + 1) (dy := g.heap.objs.size) h1 h2 (hs.keep x _ (by simp) hgb) (hdx.soft hs) hkx (Nat.le_succ_of_le hbig)) fun r s' hr => ?_
  obtain ⟨v, rfl, rfl, ⟨t, ht1, ht2⟩, X⟩ := hr
  refine ⟨rfl, _, rfl, ⟨_, _, t, rfl, Nat.le_succ _, Nat.le_refl _, ht1, h2.soft X, ht2⟩, ((hs.mono (by simp)).trans X).less (fun d hd => ?_) (one_of (k := kmax) (fun d hd => ?_) (by decide))⟩
  · simp at hd; rcases hd with rfl | rfl
    · exact .inl (by simp)
    · exact .inr (Nat.le_succ _)
  · simp at hd; rcases hd with rfl | rfl
    · exact hkx
    · exact Nat.le_succ_of_le hbig

theorem k_gnext (w : World) : ∃ pm, (KK w).lookup 89 = some ⟨.type "function", none, .func (fdM 10 4 "__next__" "groupby.__next__" .none pm (.ref 88)), #[]⟩ := ⟨_, rfl⟩
theorem meth_step {w : World} {A : Around} {E : Value → Shared → Prop} {D : List Addr} {g s : Shared} {L : Addr} {m : Str → Option Value} {news : List (Addr × Sh)} {x dx : Addr} {sl : Array (Option Value)} {pl : Sem Bool} {Q : Value × List Value → Shared → Prop} (F : Fs D g L m news s) (W : Wo (KK w) g.heap) (hD : okD tabP kmax D)
    (hx : s.heap.get? x = some (slO 93 dx sl)) (hd : DicE g.heap dx) (h : Q (.ref 82, [.ref x]) s) : wpAny (model pw w) A (getMethod (.ref x) "_step" pl) Q E s :=
  methG F W (small _) hD hx hd (by kernel_rfl) (by kernel_rfl) rfl (by kernel_rfl) h
/-- what the next group is -/
def NextPost (g : Shared) (D : List Addr) (x dx it l lam : Addr) (n : Int) (k : Value) (cv : Value) (i : Nat) (v : Value) (s' : Shared) : Prop :=
  ∃ T y dy t, v = .ref T ∧ s'.heap.get? T = some (seqObj "tuple" #[k, .ref y] 0) ∧ g.heap.objs.size ≤ T ∧ g.heap.objs.size ≤ y ∧ s'.heap.get? y = some (slO 138 dy (grS (.int (n + 1) t) (.ref x) k)) ∧ DicE s'.heap dy ∧
    s'.heap.get? x = some (slO 93 dx (gbS (.int (n + 1) t) k cv (.bool true) (.bool true) (.bool true) (.ref it) (.ref lam) (.int (n + 1) t) k)) ∧ s'.heap.get? it = some (liO l i) ∧ Ext D g s'
theorem ne_dict {h : Heap} {a b : Addr} {od o : Obj} {es : Array DictEntry} {ep : Nat} (e : h.get? b = some od) (hd : od.data = .dict es ep) (e' : h.get? a = some o) (h' : ∀ es ep, o.data ≠ .dict es ep) : a ≠ b := fun q => by
  rw [q, e] at e'; cases e'; exact h' _ _ hd
theorem gnext_tail {w : World} {A : Around} {E : Value → Shared → Prop} {g s : Shared} {pm : Value} (C : Cx A 4 60) (W : Wo (KK w) g.heap) {x it l dx lam : Addr} {k cv hv ht tk : Value} {n : Int} {t0 tt : Tok} {i : Nat} (hdx : DicE g.heap dx) (hkx : kmax ≤ x) (hki : kmax ≤ it) (hxi : it ≠ x) (hh : handedIn k = true)
    (F : Fs [x, it] g g.heap.objs.size (lk [(("self" : Str), Value.ref x)]) [(x, .raw (slO 93 dx (gbS (.int 0 tt) k cv (.bool true) hv ht (.ref it) (.ref lam) (.int n t0) tk))), (it, .raw (liO l i))] s) (hhv : hv = .bool true) :
    wpAny (model pw w) A (execs ((bodyM 10 4).drop 2) (callEnv (fdM 10 4 "__next__" "groupby.__next__" .none pm (.ref 88)) g.heap.objs.size 89)) (fun fl s' => Ret (NextPost g [x, it] x dx it l lam n k cv i) (.ok (.ret (retOf fl))) s') E s := by
  have hD := okD2 hkx hki
  subst hhv
  show wpAny _ _ (execs (_ :: _) _) _ _ _
  walk_at "go"
  refine getG F W (small _) hD (so_ck w) (F.get (x := .raw _) (.head _)) hdx rfl ?_ hh
  clear F; intro s F
  walk_at "go"
  refine setG (sl' := gbS (.int 0 tt) k cv (.bool true) (.bool true) ht (.ref it) (.ref lam) (.int n t0) k) [] _ F rfl W (small _) hD (so_tk w) hdx rfl ?_
  clear F; intro s F
  walk_at "go"
  refine setG (sl' := gbS (.int 0 tt) k cv (.bool true) (.bool true) (.bool true) (.ref it) (.ref lam) (.int n t0) k) [] _ F rfl W (small _) hD (so_ht w) hdx rfl ?_
  clear F; intro s F
  walk_at "go"
  refine getG F W (small _) hD (so_tk w) (F.get (x := .raw _) (.head _)) hdx rfl ?_ hh
  clear F; intro s F
  walk_at "go"
  refine use (gr_make (C.mono (by omega) (by omega)) (W.ext (small _) hD F.ext) (F.get (x := .raw _) (.head _)) (hdx.soft F.ext) hkx) fun r s' hr => ?_
  obtain ⟨⟨y, dy, t, rfl, hy, hdy, hy1, hy2, hy3⟩, X'⟩ := hr
  have hlt := F.ltL
  have hit := X'.keep it _ (by simpa using hxi) (F.get (x := .raw _) (.tail _ (.head _)))
  replace F := F.re [(x, .raw (slO 93 dx (gbS (.int (n + 1) t) k cv (.bool true) (.bool true) (.bool true) (.ref it) (.ref lam) (.int (n + 1) t) k))), (it, .raw (liO l i))] rfl X' (one_of (k := kmax) (fun d hd => by simp at hd; rcases hd with rfl; assumption) (by decide)) (fun d hd => .inr (by simp at hd; simp [hd])) ⟨hy3, hit, trivial⟩
  have hyx : y ≠ x := fun q => by rw [q, hy3] at hy1; cases hy1
  have hyi : y ≠ it := fun q => by rw [q, hit] at hy1; cases hy1
  have hyL : g.heap.objs.size < y := Nat.lt_of_lt_of_le hlt hy
  replace F := F.put (x := .raw (slO 138 dy _)) (a := y) hy1 (.inr (Nat.le_of_lt hyL)) (Nat.ne_of_gt hyL) (fun p hp => by
    rcases List.mem_cons.mp hp with rfl | hp
    · exact Ne.symm hyx
    · rw [List.mem_singleton.mp hp]; exact Ne.symm hyi)
  obtain ⟨od, ep, hod, hod2⟩ := hy2
  have hdL : g.heap.objs.size < dy := Nat.lt_of_lt_of_le hlt hdy
  replace F := F.put (x := .raw od) (a := dy) hod (.inr (Nat.le_of_lt hdL)) (Nat.ne_of_gt hdL) (fun p hp => by
    rcases List.mem_cons.mp hp with rfl | hp
    · exact ne_dict hod hod2 hy1 (fun _ _ q => nomatch q)
    rcases List.mem_cons.mp hp with rfl | hp
    · exact ne_dict hod hod2 hy3 (fun _ _ q => nomatch q)
    · rw [List.mem_singleton.mp hp]; exact ne_dict hod hod2 hit (fun _ _ q => nomatch q))
  walk_at "go"
  refine getG F W (small _) hD (so_ck w) (F.get (x := .raw _) (.tail _ (.tail _ (.head _)))) hdx rfl ?_ hh
  clear F; intro s F
  walk_at "go"
  have hlt := F.ltL
  refine newT F (by simp) fun T s F hT => ?_
  exact ⟨_, rfl, T, y, dy, t, rfl, F.get (x := .raw _) (.head _), Nat.le_trans (Nat.le_of_lt hlt) hT, Nat.le_of_lt hyL, F.get (x := .raw _) (.tail _ (.tail _ (.head _))), ⟨od, ep, F.get (x := .raw _) (.tail _ (.head _)), hod2⟩, F.get (x := .raw _) (.tail _ (.tail _ (.tail _ (.head _)))), F.get (x := .raw _) (.tail _ (.tail _ (.tail _ (.tail _ (.head _))))), F.ext⟩
theorem gnext_1 {w : World} {A : Around} {g : Shared} (C : Cx A 6 90) (W : Wo (KK w) g.heap) {x it l dx lam : Addr} {cg ck cv hv tk v : Value} {n : Int} {t0 : Tok} {i : Nat} {items : Array Value} {key : Value → Bool} {ok : Value → Prop}
    (hgb : g.heap.get? x = some (slO 93 dx (gbS cg ck cv (.bool false) hv (.bool false) (.ref it) (.ref lam) (.int n t0) tk))) (hdx : DicE g.heap dx) (hit : g.heap.get? it = some (liO l i)) (hl : g.heap.PlainList l items) (hx : items[i]? = some v) (hok : ok v) (hln : l ≠ it) (hlx : l ≠ x)
    (K : Key w [x, it] g lam key ok) (hkx : kmax ≤ x) (hki : kmax ≤ it) :
    codeAny (model pw w) A (.call (.ref 89) ⟨[.ref x], []⟩) (Ret (NextPost g [x, it] x dx it l lam n (.bool (key v)) v (i + 1))) g := by
  obtain ⟨pm, hkf⟩ := k_gnext w
  refine callK [x, it] (d := 5) (u := 87) C W hkf (by kernel_rfl) rfl (BindsTo.of_eq (binds := [("self", .ref x)]) rfl) rfl rfl rfl rfl rfl fun s₁ C X F => ?_
  have hD := okD2 hkx hki
  have hxi : it ≠ x := fun q => by rw [q, hgb] at hit; cases hit
  replace F := F.put (x := .raw (liO l i)) (a := it) (X.keep it _ (by simp) hit) (own_lo (by simp) hit) (Nat.ne_of_lt (Heap.lt_size hit)) (fun _ h => nomatch h)
  replace F := F.put (x := .raw (slO 93 dx _)) (a := x) (X.keep x _ (by simp) hgb) (own_sl (by simp) hgb) (Nat.ne_of_lt (Heap.lt_size hgb)) (fun p h => by rw [List.mem_singleton.mp h]; exact hxi)
  obtain ⟨nl, hl⟩ := hl
  show wpAny _ _ (execs (_ :: _) _) _ _ _
  walk_at "go"
  refine setG (sl' := gbS (.int 0 _) ck cv (.bool false) hv (.bool false) (.ref it) (.ref lam) (.int n t0) tk) [] _ F rfl W (small _) hD (so_cg w) hdx rfl ?_
  clear F; intro s F
  walk_at "go"
  refine wpAny_While ?_
  refine codeAny_whileLoop (fun k s => (k = 1 ∧ ∃ t, Fs [x, it] g g.heap.objs.size (lk [(("self" : Str), Value.ref x)]) [(x, .raw (slO 93 dx (gbS (.int 0 t) ck cv (.bool false) hv (.bool false) (.ref it) (.ref lam) (.int n t0) tk))), (it, .raw (liO l i))] s) ∨
      (k = 0 ∧ ∃ t, Fs [x, it] g g.heap.objs.size (lk [(("self" : Str), Value.ref x)]) [(x, .raw (slO 93 dx (gbS (.int 0 t) (.bool (key v)) v (.bool true) (.bool true) (.bool false) (.ref it) (.ref lam) (.int n t0) tk))), (it, .raw (liO l (i + 1)))] s)) ?_ 1 (.inl ⟨rfl, _, F.as _ ⟨rfl, trivial⟩⟩)
  clear F
  rintro k s (⟨rfl, tt, F⟩ | ⟨rfl, tt, F⟩)
  · walk_at "go"
    rw [if_pos rfl]
    walk_at "go"
    refine getG F W (small _) hD (so_hk w) (F.get (x := .raw _) (.head _)) hdx rfl ?_
    clear F; intro s F
    walk_at "go"
    rw [if_neg (by decide)]
    walk_at "go"
    refine meth_step F W hD (F.get (x := .raw _) (.head _)) hdx ?_
    refine callW0 (K := KK w) (by kernel_rfl) (W.ext (small _) hD F.ext).X ?_
    refine use (step_item (C.mono (by omega) (by omega)) (W.ext (small _) hD F.ext) (F.get (x := .raw _) (.head _)) (hdx.soft F.ext) (F.get (x := .raw _) (.tail _ (.head _))) ⟨nl, F.old (by simp [hln, hlx]) hl⟩ hx hok hln hlx (K.on F.ext) hkx hki) fun r s' hr => ?_
    obtain ⟨h1, h2, X'⟩ := hr
    have F := F.re [(x, .raw (slO 93 dx (gbS (.int 0 tt) (.bool (key v)) v (.bool true) (.bool true) (.bool false) (.ref it) (.ref lam) (.int n t0) tk))), (it, .raw (liO l (i + 1)))] rfl X' (one_of (k := kmax) (fun d hd => by simp at hd; rcases hd with rfl | rfl <;> assumption) (by decide)) (fun d hd => .inr (by simpa using hd)) ⟨h1, h2, trivial⟩
    walk_at "go"
    exact ⟨0, by omega, .inr ⟨rfl, tt, F⟩⟩
  · walk_at "go"
    rw [if_pos rfl]
    walk_at "go"
    refine getG F W (small _) hD (so_hk w) (F.get (x := .raw _) (.head _)) hdx rfl ?_
    clear F; intro s F
    walk_at "go"
    rw [if_pos rfl]
    walk_at "go"
    refine getG F W (small _) hD (so_ht w) (F.get (x := .raw _) (.head _)) hdx rfl ?_
    clear F; intro s F
    walk_at "go"
    rw [if_pos (by decide)]
    refine wpAny_execs_cons (wpAny_Break ?_)
    exact gnext_tail (C.mono (by omega) (by omega)) W hdx hkx hki hxi rfl F rfl
theorem gnext_2 {w : World} {A : Around} {g : Shared} (C : Cx A 6 90) (W : Wo (KK w) g.heap) {x it l dx lam : Addr} {cg cv : Value} {a b : Bool} {n : Int} {t0 : Tok} {i : Nat}
    (hgb : g.heap.get? x = some (slO 93 dx (gbS cg (.bool b) cv (.bool true) (.bool true) (.bool true) (.ref it) (.ref lam) (.int n t0) (.bool a)))) (hdx : DicE g.heap dx) (hit : g.heap.get? it = some (liO l i)) (hab : a ≠ b) (hkx : kmax ≤ x) (hki : kmax ≤ it) :
    codeAny (model pw w) A (.call (.ref 89) ⟨[.ref x], []⟩) (Ret (NextPost g [x, it] x dx it l lam n (.bool b) cv i)) g := by
  obtain ⟨pm, hkf⟩ := k_gnext w
  refine callK [x, it] (d := 5) (u := 87) C W hkf (by kernel_rfl) rfl (BindsTo.of_eq (binds := [("self", .ref x)]) rfl) rfl rfl rfl rfl rfl fun s₁ C X F => ?_
  have hD := okD2 hkx hki
  have hxi : it ≠ x := fun q => by rw [q, hgb] at hit; cases hit
  replace F := F.put (x := .raw (liO l i)) (a := it) (X.keep it _ (by simp) hit) (own_lo (by simp) hit) (Nat.ne_of_lt (Heap.lt_size hit)) (fun _ h => nomatch h)
  replace F := F.put (x := .raw (slO 93 dx _)) (a := x) (X.keep x _ (by simp) hgb) (own_sl (by simp) hgb) (Nat.ne_of_lt (Heap.lt_size hgb)) (fun p h => by rw [List.mem_singleton.mp h]; exact hxi)
  show wpAny _ _ (execs (_ :: _) _) _ _ _
  walk_at "go"
  refine setG (sl' := gbS (.int 0 _) (.bool b) cv (.bool true) (.bool true) (.bool true) (.ref it) (.ref lam) (.int n t0) (.bool a)) [] _ F rfl W (small _) hD (so_cg w) hdx rfl ?_
  clear F; intro s F
  walk_at "go"
  refine wpAny_While ?_
  refine codeAny_whileLoop (fun k s => (k = 1 ∧ ∃ t, Fs [x, it] g g.heap.objs.size (lk [(("self" : Str), Value.ref x)]) [(x, .raw (slO 93 dx (gbS (.int 0 t) (.bool b) cv (.bool true) (.bool true) (.bool true) (.ref it) (.ref lam) (.int n t0) (.bool a)))), (it, .raw (liO l i))] s)) ?_ 1 ⟨rfl, _, F.as _ ⟨rfl, trivial⟩⟩
  clear F
  rintro k s ⟨rfl, tt, F⟩
  walk_at "go"
  rw [if_pos rfl]
  walk_at "go"
  refine getG F W (small _) hD (so_hk w) (F.get (x := .raw _) (.head _)) hdx rfl ?_
  clear F; intro s F
  walk_at "go"
  rw [if_pos rfl]
  walk_at "go"
  refine getG F W (small _) hD (so_ht w) (F.get (x := .raw _) (.head _)) hdx rfl ?_
  clear F; intro s F
  walk_at "go"
  rw [if_neg (by decide)]
  walk_at "go"
  refine getG F W (small _) hD (so_tk w) (F.get (x := .raw _) (.head _)) hdx rfl ?_
  clear F; intro s F
  walk_at "go"
  refine getG F W (small _) hD (so_ck w) (F.get (x := .raw _) (.head _)) hdx rfl ?_
  clear F; intro s F
  walk_at "go"
  refine use (same_spec (C.mono (by omega) (by omega)) (W.ext (small _) hD F.ext)) fun r s' hr => ?_
  obtain ⟨rfl, X'⟩ := hr
  replace F := F.step X'
  walk_at "go"
  rw [if_pos (by simp [hab])]
  refine wpAny_execs_cons (wpAny_Break ?_)
  exact gnext_tail (C.mono (by omega) (by omega)) W hdx hkx hki hxi rfl F rfl
theorem gnext_3 {w : World} {A : Around} {g : Shared} (C : Cx A 6 90) (W : Wo (KK w) g.heap) (U : Up kmax A g.heap) {x it dx : Addr} {cg ck cv hv ht kf se tk : Value} {i : Nat}
    (hgb : g.heap.get? x = some (slO 93 dx (gbS cg ck cv (.bool false) hv ht (.ref it) kf se tk))) (hdx : DicE g.heap dx) (hit : (∃ l items, g.heap.get? it = some (liO l i) ∧ g.heap.PlainList l items ∧ items[i]? = none ∧ l ≠ it ∧ l ≠ x) ∨ g.heap.get? it = some (liE i)) (hkx : kmax ≤ x) (hki : kmax ≤ it) :
    codeAny (model pw w) A (.call (.ref 89) ⟨[.ref x], []⟩) (fun r s' => Thr ([x, it] ++ frs A) g r s' ∧ True) g := by
  obtain ⟨pm, hkf⟩ := k_gnext w
  have hown : ∃ o, g.heap.get? it = some o ∧ ∀ es ep, o.data ≠ .dict es ep := by
    rcases hit with ⟨l, _, e, _⟩ | e
    · exact ⟨_, e, fun _ _ q => nomatch q⟩
    · exact ⟨_, e, fun _ _ q => nomatch q⟩
  obtain ⟨oi, hoi, hoid⟩ := hown
  have hxi : it ≠ x := fun q => by
    rw [q] at hit
    rcases hit with ⟨l, _, e, _⟩ | e <;> (rw [hgb] at e; cases e)
  refine callK [x, it] (d := 5) (u := 87) C W hkf (by kernel_rfl) rfl (BindsTo.of_eq (binds := [("self", .ref x)]) rfl) rfl rfl rfl rfl rfl fun s₁ C X F => ?_
  have hD := okDf (okD2 hkx hki) U
  have hbig := W.big
  replace F := F.put (x := .raw oi) (a := it) (X.keep it _ (by simp) hoi) (.inl ⟨by simp, fun o e => by rw [hoi] at e; cases e; exact hoid⟩) (Nat.ne_of_lt (Heap.lt_size hoi)) (fun _ h => nomatch h)
  replace F := F.put (x := .raw (slO 93 dx _)) (a := x) (X.keep x _ (by simp) hgb) (own_sl (by simp) hgb) (Nat.ne_of_lt (Heap.lt_size hgb)) (fun p h => by rw [List.mem_singleton.mp h]; exact hxi)
  replace F := F.moreD (D' := [x, it] ++ frs A) (fun d hd => List.mem_append_left _ hd)
  show wpAny _ _ (execs (_ :: _) _) _ _ _
  walk_at "go"
  refine setG (sl' := gbS (.int 0 _) ck cv (.bool false) hv ht (.ref it) kf se tk) [] _ F rfl W (small _) hD (so_cg w) hdx rfl ?_
  clear F; intro s F
  walk_at "go"
  refine wpAny_While ?_
  refine codeAny_whileLoop (fun k s => (k = 1 ∧ ∃ t, Fs ([x, it] ++ frs A) g g.heap.objs.size (lk [(("self" : Str), Value.ref x)]) [(x, .raw (slO 93 dx (gbS (.int 0 t) ck cv (.bool false) hv ht (.ref it) kf se tk))), (it, .raw oi)] s)) ?_ 1 ⟨rfl, _, F.as _ ⟨rfl, trivial⟩⟩
  clear F
  rintro k s ⟨rfl, tt, F⟩
  walk_at "go"
  rw [if_pos rfl]
  walk_at "go"
  refine getG F W (small _) hD (so_hk w) (F.get (x := .raw _) (.head _)) hdx rfl ?_
  clear F; intro s F
  walk_at "go"
  rw [if_neg (by decide)]
  walk_at "go"
  refine meth_step F W hD (F.get (x := .raw _) (.head _)) hdx ?_
  refine callW0 (K := KK w) (by kernel_rfl) (W.ext (small _) hD F.ext).X ?_
  have U' := U.deep F (env := callEnv (fdM 10 4 "__next__" "groupby.__next__" .none pm (.ref 88)) g.heap.objs.size 89) hbig
  have hal : ∀ b ∈ [x, it] ++ frs A, ∃ o, s.heap.get? b = some o := fun b hb => by
    rcases List.mem_append.mp hb with h | h
    · simp at h
      rcases h with rfl | rfl
      · exact ⟨_, F.get (x := .raw _) (.head _)⟩
      · exact ⟨_, F.get (x := .raw _) (.tail _ (.head _))⟩
    · exact alive_frs U F.ext b h
  have Xp := F.ext
  refine wpAny_passesOwn (by passes_own) (useThr (step_end (i := i) (C.mono (by omega) (by omega)) (W.ext (small _) hD F.ext) U' (F.get (x := .raw _) (.head _)) (hdx.soft F.ext) ?_ hki) fun e T s' X' he hT htr hp => ?_)
  · rcases hit with ⟨l, items, e, ⟨nl, hl⟩, e2, e3, e4⟩ | e
    · rw [hoi] at e; cases e
      exact .inl ⟨l, items, F.get (x := .raw _) (.tail _ (.head _)), ⟨nl, F.old (fun q => by
        rcases List.mem_append.mp q with h | h
        · simp at h; rcases h with h | h
          · exact e4 h
          · exact e3 h
        · exact U.notD hl (fun _ _ q => nomatch q) h) hl⟩, e2, e3⟩
    · rw [hoi] at e; cases e
      exact .inr (F.get (x := .raw _) (.tail _ (.head _)))
  · replace F := F.reU [(x, .raw (slO 93 dx (gbS (.int 0 tt) ck cv (.bool false) hv ht (.ref it) kf se tk))), (it, .raw (liE i))] rfl U (by decide) hbig rfl X' (by simpa using hki) (fun d hd => .inr (by simp at hd; simp [hd])) ⟨hp.1, hp.2, trivial⟩
    have hal' : ∀ b ∈ [x, it] ++ frs A, ∃ o, s'.heap.get? b = some o := fun b hb => by
      rcases List.mem_append.mp hb with h | h
      · simp at h
        rcases h with rfl | rfl
        · exact ⟨_, F.get (x := .raw _) (.head _)⟩
        · exact ⟨_, F.get (x := .raw _) (.tail _ (.head _))⟩
      · exact alive_frs U F.ext b h
    refine throwOn (env := callEnv (fdM 10 4 "__next__" "groupby.__next__" .none pm (.ref 88)) g.heap.objs.size 89) (R := fun r s' => Thr ([x, it] ++ frs A) g r s' ∧ True) F (fun b hb => .inl (hal' b hb)) U (by decide) hbig rfl rfl htr (gone_of Xp hal he) (gone_of Xp hal hT) fun r s' hthr hold => ⟨hthr.mono (fun d hd => (List.mem_append.mp hd).elim id fun h => List.mem_append_right _ h), trivial⟩

theorem k_grn (w : World) : ∃ pm, (KK w).lookup 134 = some ⟨.type "function", none, .func (fdM 11 3 "__next__" "_grouper.__next__" .none pm (.ref 133)), #[]⟩ := ⟨_, rfl⟩
/-- what is handed out, and the state behind -/
theorem grn_take {w : World} {A : Around} {E : Value → Shared → Prop} {g s : Shared} {D : List Addr} {pm : Value} (C : Cx A 4 60) (W : Wo (KK w) g.heap) (hD : okD tabP kmax D) {x it dx y dy : Addr} {cv kf se tk cg : Value} {nn : Value} {a : Bool} (hdx : DicE g.heap dx) (hdy : DicE g.heap dy) {rest : List (Addr × Sh)}
    (hy : g.heap.get? y = some (slO 138 dy (grS nn (.ref x) (.bool a)))) (hyD : y ∉ D) (hcv : handedIn cv = true)
    (F : Fs D g g.heap.objs.size (lk [("gbo", .ref x), ("self", .ref y)]) ((x, .raw (slO 93 dx (gbS cg (.bool a) cv (.bool true) (.bool true) (.bool true) (.ref it) kf se tk))) :: rest) s)
    {R : Result → Shared → Prop} (h : ∀ s' m', Fs D g g.heap.objs.size m' ((x, .raw (slO 93 dx (gbS cg .none .none (.bool false) (.bool false) (.bool true) (.ref it) kf se tk))) :: rest) s' → R (.ok (.ret cv)) s') :
    wpAny (model pw w) A (execs ((bodyM 11 3).drop 3) (callEnv (fdM 11 3 "__next__" "_grouper.__next__" .none pm (.ref 133)) g.heap.objs.size 134)) (fun fl s' => R (.ok (.ret (retOf fl))) s') E s := by
  show wpAny _ _ (execs (_ :: _) _) _ _ _
  walk_at "go"
  refine getG F W (small _) hD (so_gt w) (F.old hyD hy) hdy rfl ?_
  clear F; intro s F
  walk_at "go"
  refine getG F W (small _) hD (so_ck w) (F.get (x := .raw _) (.head _)) hdx rfl ?_
  clear F; intro s F
  walk_at "go"
  refine use (same_spec (C.mono (by omega) (by omega)) (W.ext (small _) hD F.ext)) fun r s' hr => ?_
  obtain ⟨rfl, X'⟩ := hr
  replace F := F.step X'
  walk_at "go"
  rw [if_neg (by simp)]
  walk_at "go"
  refine getG F W (small _) hD (so_cv w) (F.get (x := .raw _) (.head _)) hdx rfl ?_ hcv
  clear F; intro s F
  walk_at "go"
  refine setG (sl' := gbS cg (.bool a) .none (.bool true) (.bool true) (.bool true) (.ref it) kf se tk) [] _ F rfl W (small _) hD (so_cv w) hdx rfl ?_
  clear F; intro s F
  walk_at "go"
  refine setG (sl' := gbS cg (.bool a) .none (.bool true) (.bool false) (.bool true) (.ref it) kf se tk) [] _ F rfl W (small _) hD (so_hv w) hdx rfl ?_
  clear F; intro s F
  walk_at "go"
  refine setG (sl' := gbS cg .none .none (.bool true) (.bool false) (.bool true) (.ref it) kf se tk) [] _ F rfl W (small _) hD (so_ck w) hdx rfl ?_
  clear F; intro s F
  walk_at "go"
  refine setG (sl' := gbS cg .none .none (.bool false) (.bool false) (.bool true) (.ref it) kf se tk) [] _ F rfl W (small _) hD (so_hk w) hdx rfl ?_
  clear F; intro s F
  walk_at "go"
  exact h s _ F
theorem grn_have {w : World} {A : Around} {g : Shared} (C : Cx A 6 90) (W : Wo (KK w) g.heap) {x it dx y dy : Addr} {cv kf se tk : Value} {nn : Int} {tn : Tok} {a : Bool}
    (hgb : g.heap.get? x = some (slO 93 dx (gbS (.int nn tn) (.bool a) cv (.bool true) (.bool true) (.bool true) (.ref it) kf se tk))) (hdx : DicE g.heap dx) (hy : g.heap.get? y = some (slO 138 dy (grS (.int nn tn) (.ref x) (.bool a)))) (hdy : DicE g.heap dy) (hkx : kmax ≤ x) (hcv : handedIn cv = true) :
    codeAny (model pw w) A (.call (.ref 134) ⟨[.ref y], []⟩) (Ret fun v s' => v = cv ∧ s'.heap.get? x = some (slO 93 dx (gbS (.int nn tn) .none .none (.bool false) (.bool false) (.bool true) (.ref it) kf se tk)) ∧ Ext [x] g s') g := by
  obtain ⟨pm, hkf⟩ := k_grn w
  refine callK [x] (d := 5) (u := 87) C W hkf (by kernel_rfl) rfl (BindsTo.of_eq (binds := [("self", .ref y)]) rfl) rfl rfl rfl rfl rfl fun s₁ C X F => ?_
  have hD := okD1 hkx
  have hyD : y ∉ [x] := fun q => by rw [List.mem_singleton.mp q, hgb] at hy; cases hy
  replace F := F.put (x := .raw (slO 93 dx _)) (a := x) (X.keep x _ (by simp) hgb) (own_sl (by simp) hgb) (Nat.ne_of_lt (Heap.lt_size hgb)) (fun p h => nomatch h)
  show wpAny _ _ (execs (_ :: _) _) _ _ _
  walk_at "go"
  refine getG F W (small _) hD (so_pa w) (F.old hyD hy) hdy rfl ?_
  clear F; intro s F
  walk_at "go"
  refine getG F W (small _) hD (so_cg w) (F.get (x := .raw _) (.head _)) hdx rfl ?_
  clear F; intro s F
  walk_at "go"
  refine getG F W (small _) hD (so_nu w) (F.old hyD hy) hdy rfl ?_
  clear F; intro s F
  walk_at "go"
  rw [if_neg (by simp)]
  walk_at "go"
  refine getG F W (small _) hD (so_hv w) (F.get (x := .raw _) (.head _)) hdx rfl ?_
  clear F; intro s F
  walk_at "go"
  rw [if_neg (by decide)]
  refine wpAny_execs_nil ?_
  exact grn_take (R := Ret fun v s' => v = cv ∧ s'.heap.get? x = some (slO 93 dx (gbS (.int nn tn) .none .none (.bool false) (.bool false) (.bool true) (.ref it) kf se tk)) ∧ Ext [x] g s') (C.mono (by omega) (by omega)) W hD hdx hdy hy hyD hcv (F.as _ ⟨rfl, rfl, trivial⟩) fun s' m' F => ⟨_, rfl, rfl, F.get (x := .raw _) (.head _), F.ext⟩
theorem grn_step {w : World} {A : Around} {g : Shared} (C : Cx A 6 90) (W : Wo (KK w) g.heap) {x it l dx y dy lam : Addr} {ck cv se tk v : Value} {nn : Int} {tn : Tok} {a : Bool} {i : Nat} {items : Array Value} {key : Value → Bool} {ok : Value → Prop}
    (hgb : g.heap.get? x = some (slO 93 dx (gbS (.int nn tn) ck cv (.bool false) (.bool false) (.bool true) (.ref it) (.ref lam) se tk))) (hdx : DicE g.heap dx) (hy : g.heap.get? y = some (slO 138 dy (grS (.int nn tn) (.ref x) (.bool a)))) (hdy : DicE g.heap dy) (hit : g.heap.get? it = some (liO l i)) (hl : g.heap.PlainList l items) (hx : items[i]? = some v) (hok : ok v) (hln : l ≠ it) (hlx : l ≠ x)
    (K : Key w [x, it] g lam key ok) (hka : key v = a) (hcv : handedIn v = true) (hkx : kmax ≤ x) (hki : kmax ≤ it) :
    codeAny (model pw w) A (.call (.ref 134) ⟨[.ref y], []⟩) (Ret fun r s' => r = v ∧ s'.heap.get? x = some (slO 93 dx (gbS (.int nn tn) .none .none (.bool false) (.bool false) (.bool true) (.ref it) (.ref lam) se tk)) ∧ s'.heap.get? it = some (liO l (i + 1)) ∧ Ext [x, it] g s') g := by
  obtain ⟨pm, hkf⟩ := k_grn w
  refine callK [x, it] (d := 5) (u := 87) C W hkf (by kernel_rfl) rfl (BindsTo.of_eq (binds := [("self", .ref y)]) rfl) rfl rfl rfl rfl rfl fun s₁ C X F => ?_
  have hD := okD2 hkx hki
  have hxi : it ≠ x := fun q => by rw [q, hgb] at hit; cases hit
  have hyx : y ≠ x := fun q => by rw [q, hgb] at hy; cases hy
  have hyi : y ≠ it := fun q => by rw [q, hit] at hy; cases hy
  replace F := F.put (x := .raw (liO l i)) (a := it) (X.keep it _ (by simp) hit) (own_lo (by simp) hit) (Nat.ne_of_lt (Heap.lt_size hit)) (fun _ h => nomatch h)
  replace F := F.put (x := .raw (slO 93 dx _)) (a := x) (X.keep x _ (by simp) hgb) (own_sl (by simp) hgb) (Nat.ne_of_lt (Heap.lt_size hgb)) (fun p h => by rw [List.mem_singleton.mp h]; exact hxi)
  obtain ⟨nl, hl⟩ := hl
  have hyD : y ∉ [x, it] := by simp [hyx, hyi]
  show wpAny _ _ (execs (_ :: _) _) _ _ _
  walk_at "go"
  refine getG F W (small _) hD (so_pa w) (F.old hyD hy) hdy rfl ?_
  clear F; intro s F
  walk_at "go"
  refine getG F W (small _) hD (so_cg w) (F.get (x := .raw _) (.head _)) hdx rfl ?_
  clear F; intro s F
  walk_at "go"
  refine getG F W (small _) hD (so_nu w) (F.old hyD hy) hdy rfl ?_
  clear F; intro s F
  walk_at "go"
  rw [if_neg (by simp)]
  walk_at "go"
  refine getG F W (small _) hD (so_hv w) (F.get (x := .raw _) (.head _)) hdx rfl ?_
  clear F; intro s F
  walk_at "go"
  rw [if_pos (by decide)]
  walk_at "go"
  refine meth_step F W hD (F.get (x := .raw _) (.head _)) hdx ?_
  refine callW0 (K := KK w) (by kernel_rfl) (W.ext (small _) hD F.ext).X ?_
  refine use (step_item (C.mono (by omega) (by omega)) (W.ext (small _) hD F.ext) (F.get (x := .raw _) (.head _)) (hdx.soft F.ext) (F.get (x := .raw _) (.tail _ (.head _))) ⟨nl, F.old (by simp [hln, hlx]) hl⟩ hx hok hln hlx (K.on F.ext) hkx hki) fun r s' hr => ?_
  obtain ⟨h1, h2, X'⟩ := hr
  rw [hka] at h1
  replace F := F.re [(x, .raw (slO 93 dx (gbS (.int nn tn) (.bool a) v (.bool true) (.bool true) (.bool true) (.ref it) (.ref lam) se tk))), (it, .raw (liO l (i + 1)))] rfl X' (one_of (k := kmax) (fun d hd => by simp at hd; rcases hd with rfl | rfl <;> assumption) (by decide)) (fun d hd => .inr (by simpa using hd)) ⟨h1, h2, trivial⟩
  refine wpAny_execs_nil ?_
  exact grn_take (R := Ret fun r s' => r = v ∧ s'.heap.get? x = some (slO 93 dx (gbS (.int nn tn) .none .none (.bool false) (.bool false) (.bool true) (.ref it) (.ref lam) se tk)) ∧ s'.heap.get? it = some (liO l (i + 1)) ∧ Ext [x, it] g s') (C.mono (by omega) (by omega)) W hD hdx hdy hy hyD hcv (F.as _ ⟨rfl, rfl, trivial⟩) fun s' m' F => ⟨_, rfl, rfl, F.get (x := .raw _) (.head _), F.get (x := .raw _) (.tail _ (.head _)), F.ext⟩
theorem grn_diff {w : World} {A : Around} {g : Shared} (C : Cx A 6 90) (W : Wo (KK w) g.heap) (U : Up kmax A g.heap) {x it l dx y dy lam : Addr} {ck cv se tk v : Value} {nn : Int} {tn : Tok} {a : Bool} {i : Nat} {items : Array Value} {key : Value → Bool} {ok : Value → Prop}
    (hgb : g.heap.get? x = some (slO 93 dx (gbS (.int nn tn) ck cv (.bool false) (.bool false) (.bool true) (.ref it) (.ref lam) se tk))) (hdx : DicE g.heap dx) (hy : g.heap.get? y = some (slO 138 dy (grS (.int nn tn) (.ref x) (.bool a)))) (hdy : DicE g.heap dy) (hit : g.heap.get? it = some (liO l i)) (hl : g.heap.PlainList l items) (hx : items[i]? = some v) (hok : ok v) (hln : l ≠ it) (hlx : l ≠ x)
    (K : Key w ([x, it] ++ frs A) g lam key ok) (hka : key v ≠ a) (hkx : kmax ≤ x) (hki : kmax ≤ it) :
    codeAny (model pw w) A (.call (.ref 134) ⟨[.ref y], []⟩) (fun r s' => Thr ([x, it] ++ frs A) g r s' ∧ s'.heap.get? x = some (slO 93 dx (gbS (.int nn tn) (.bool (key v)) v (.bool true) (.bool true) (.bool true) (.ref it) (.ref lam) se tk)) ∧ s'.heap.get? it = some (liO l (i + 1))) g := by
  obtain ⟨pm, hkf⟩ := k_grn w
  refine callK [x, it] (d := 5) (u := 87) C W hkf (by kernel_rfl) rfl (BindsTo.of_eq (binds := [("self", .ref y)]) rfl) rfl rfl rfl rfl rfl fun s₁ C X F => ?_
  have hD := okDf (okD2 hkx hki) U
  have hbig := W.big
  have hxi : it ≠ x := fun q => by rw [q, hgb] at hit; cases hit
  have hyx : y ≠ x := fun q => by rw [q, hgb] at hy; cases hy
  have hyi : y ≠ it := fun q => by rw [q, hit] at hy; cases hy
  replace F := F.put (x := .raw (liO l i)) (a := it) (X.keep it _ (by simp) hit) (own_lo (by simp) hit) (Nat.ne_of_lt (Heap.lt_size hit)) (fun _ h => nomatch h)
  replace F := F.put (x := .raw (slO 93 dx _)) (a := x) (X.keep x _ (by simp) hgb) (own_sl (by simp) hgb) (Nat.ne_of_lt (Heap.lt_size hgb)) (fun p h => by rw [List.mem_singleton.mp h]; exact hxi)
  obtain ⟨nl, hl⟩ := hl
  replace F := F.moreD (D' := [x, it] ++ frs A) (fun d hd => List.mem_append_left _ hd)
  have hyD : y ∉ [x, it] ++ frs A := fun q => by
    rcases List.mem_append.mp q with h | h
    · simp [hyx, hyi] at h
    · exact U.notD hy (fun _ _ q => nomatch q) h
  have hlD : l ∉ [x, it] ++ frs A := fun q => by
    rcases List.mem_append.mp q with h | h
    · simp [hln, hlx] at h
    · exact U.notD hl (fun _ _ q => nomatch q) h
  show wpAny _ _ (execs (_ :: _) _) _ _ _
  walk_at "go"
  refine getG F W (small _) hD (so_pa w) (F.old hyD hy) hdy rfl ?_
  clear F; intro s F
  walk_at "go"
  refine getG F W (small _) hD (so_cg w) (F.get (x := .raw _) (.head _)) hdx rfl ?_
  clear F; intro s F
  walk_at "go"
  refine getG F W (small _) hD (so_nu w) (F.old hyD hy) hdy rfl ?_
  clear F; intro s F
  walk_at "go"
  rw [if_neg (by simp)]
  walk_at "go"
  refine getG F W (small _) hD (so_hv w) (F.get (x := .raw _) (.head _)) hdx rfl ?_
  clear F; intro s F
  walk_at "go"
  rw [if_pos (by decide)]
  walk_at "go"
  refine meth_step F W hD (F.get (x := .raw _) (.head _)) hdx ?_
  refine callW0 (K := KK w) (by kernel_rfl) (W.ext (small _) hD F.ext).X ?_
  refine use (step_item (key := key) (ok := ok) (C.mono (by omega) (by omega)) (W.ext (small _) hD F.ext) (F.get (x := .raw _) (.head _)) (hdx.soft F.ext) (F.get (x := .raw _) (.tail _ (.head _))) ⟨nl, F.old hlD hl⟩ hx hok hln hlx ((K.on F.ext).less fun d hd => List.mem_append_left _ hd) hkx hki) fun r s' hr => ?_
  obtain ⟨h1, h2, X'⟩ := hr
  replace F := F.re [(x, .raw (slO 93 dx (gbS (.int nn tn) (.bool (key v)) v (.bool true) (.bool true) (.bool true) (.ref it) (.ref lam) se tk))), (it, .raw (liO l (i + 1)))] rfl X' (one_of (k := kmax) (fun d hd => by simp at hd; rcases hd with rfl | rfl <;> assumption) (by decide)) (fun d hd => .inr (by simpa using hd)) ⟨h1, h2, trivial⟩
  walk_at "go"
  refine getG F W (small _) hD (so_gt w) (F.old hyD hy) hdy rfl ?_
  clear F; intro s F
  walk_at "go"
  refine getG F W (small _) hD (so_ck w) (F.get (x := .raw _) (.head _)) hdx rfl ?_
  clear F; intro s F
  walk_at "go"
  refine use (same_spec (C.mono (by omega) (by omega)) (W.ext (small _) hD F.ext)) fun r s' hr => ?_
  obtain ⟨rfl, X'⟩ := hr
  replace F := F.step X'
  walk_at "go"
  rw [if_pos (by simp [Ne.symm hka])]
  refine wpAny_execs_cons ?_
  refine owsi_raiseC C.hh (ldB F W (small _) hD rfl boot_stop ⟨rfl, rfl⟩) fun h' e hm => ?_
  have hal : ∀ b ∈ [x, it] ++ frs A, ∃ o, s'.heap.get? b = some o := fun b hb => by
    rcases List.mem_append.mp hb with h | h
    · simp at h
      rcases h with rfl | rfl
      · exact ⟨_, F.get (x := .raw _) (.head _)⟩
      · exact ⟨_, F.get (x := .raw _) (.tail _ (.head _))⟩
    · exact alive_frs U F.ext b h
  refine throwNew (env := callEnv (fdM 11 3 "__next__" "_grouper.__next__" .none pm (.ref 133)) g.heap.objs.size 134) (R := fun r s' => Thr ([x, it] ++ frs A) g r s' ∧ s'.heap.get? x = some (slO 93 dx (gbS (.int nn tn) (.bool (key v)) v (.bool true) (.bool true) (.bool true) (.ref it) (.ref lam) se tk)) ∧ s'.heap.get? it = some (liO l (i + 1)))
    F (fun b hb => .inl (hal b hb)) U (by decide) hbig rfl rfl hm (gone_of F.ext hal hm.new) fun r s' hthr hold => ⟨hthr.mono (fun d hd => (List.mem_append.mp hd).elim id fun h => List.mem_append_right _ h), ?_, ?_⟩
  · exact hold x _ (not_frs U rfl (Nat.le_refl _) hgb (fun _ _ q => nomatch q)) (fun q => by unfold Gone at q; rw [hgb] at q; cases q) (F.get (x := .raw _) (.head _))
  · exact hold it _ (not_frs U rfl (Nat.le_refl _) hit (fun _ _ q => nomatch q)) (fun q => by unfold Gone at q; rw [hit] at q; cases q) (F.get (x := .raw _) (.tail _ (.head _)))

theorem grn_end {w : World} {A : Around} {g : Shared} (C : Cx A 6 90) (W : Wo (KK w) g.heap) (U : Up kmax A g.heap) {x it dx y dy : Addr} {ck cv hk ht kf se tk : Value} {nn : Int} {tn : Tok} {a : Bool} {i : Nat}
    (hgb : g.heap.get? x = some (slO 93 dx (gbS (.int nn tn) ck cv hk (.bool false) ht (.ref it) kf se tk))) (hdx : DicE g.heap dx) (hy : g.heap.get? y = some (slO 138 dy (grS (.int nn tn) (.ref x) (.bool a)))) (hdy : DicE g.heap dy)
    (hit : (∃ l items, g.heap.get? it = some (liO l i) ∧ g.heap.PlainList l items ∧ items[i]? = none ∧ l ≠ it ∧ l ≠ x) ∨ g.heap.get? it = some (liE i)) (hkx : kmax ≤ x) (hki : kmax ≤ it) :
    codeAny (model pw w) A (.call (.ref 134) ⟨[.ref y], []⟩) (fun r s' => Thr ([x, it] ++ frs A) g r s' ∧ s'.heap.get? x = some (slO 93 dx (gbS (.int nn tn) ck cv hk (.bool false) ht (.ref it) kf se tk)) ∧ s'.heap.get? it = some (liE i)) g := by
  obtain ⟨pm, hkf⟩ := k_grn w
  have hown : ∃ o, g.heap.get? it = some o ∧ (∀ es ep, o.data ≠ .dict es ep) ∧ o.data ≠ .plain := by
    rcases hit with ⟨l, _, e, _⟩ | e
    · exact ⟨_, e, (fun _ _ q => nomatch q), fun q => nomatch q⟩
    · exact ⟨_, e, (fun _ _ q => nomatch q), fun q => nomatch q⟩
  obtain ⟨oi, hoi, hoid, hop⟩ := hown
  have hxi : it ≠ x := fun q => by rw [q, hgb] at hoi; cases hoi; exact hop rfl
  have hyx : y ≠ x := fun q => by rw [q, hgb] at hy; cases hy
  have hyi : y ≠ it := fun q => by rw [q, hoi] at hy; cases hy; exact hop rfl
  refine callK [x, it] (d := 5) (u := 87) C W hkf (by kernel_rfl) rfl (BindsTo.of_eq (binds := [("self", .ref y)]) rfl) rfl rfl rfl rfl rfl fun s₁ C X F => ?_
  have hD := okDf (okD2 hkx hki) U
  have hbig := W.big
  replace F := F.put (x := .raw oi) (a := it) (X.keep it _ (by simp) hoi) (.inl ⟨by simp, fun o e => by rw [hoi] at e; cases e; exact hoid⟩) (Nat.ne_of_lt (Heap.lt_size hoi)) (fun _ h => nomatch h)
  replace F := F.put (x := .raw (slO 93 dx _)) (a := x) (X.keep x _ (by simp) hgb) (own_sl (by simp) hgb) (Nat.ne_of_lt (Heap.lt_size hgb)) (fun p h => by rw [List.mem_singleton.mp h]; exact hxi)
  replace F := F.moreD (D' := [x, it] ++ frs A) (fun d hd => List.mem_append_left _ hd)
  have hyD : y ∉ [x, it] ++ frs A := fun q => by
    rcases List.mem_append.mp q with h | h
    · simp [hyx, hyi] at h
    · exact U.notD hy (fun _ _ q => nomatch q) h
  show wpAny _ _ (execs (_ :: _) _) _ _ _
  walk_at "go"
  refine getG F W (small _) hD (so_pa w) (F.old hyD hy) hdy rfl ?_
  clear F; intro s F
  walk_at "go"
  refine getG F W (small _) hD (so_cg w) (F.get (x := .raw _) (.head _)) hdx rfl ?_
  clear F; intro s F
  walk_at "go"
  refine getG F W (small _) hD (so_nu w) (F.old hyD hy) hdy rfl ?_
  clear F; intro s F
  walk_at "go"
  rw [if_neg (by simp)]
  walk_at "go"
  refine getG F W (small _) hD (so_hv w) (F.get (x := .raw _) (.head _)) hdx rfl ?_
  clear F; intro s F
  walk_at "go"
  rw [if_pos (by decide)]
  walk_at "go"
  refine meth_step F W hD (F.get (x := .raw _) (.head _)) hdx ?_
  refine callW0 (K := KK w) (by kernel_rfl) (W.ext (small _) hD F.ext).X ?_
  have U' := U.deep F (env := callEnv (fdM 11 3 "__next__" "_grouper.__next__" .none pm (.ref 133)) g.heap.objs.size 134) hbig
  have hal : ∀ b ∈ [x, it] ++ frs A, ∃ o, s.heap.get? b = some o := fun b hb => by
    rcases List.mem_append.mp hb with h | h
    · simp at h
      rcases h with rfl | rfl
      · exact ⟨_, F.get (x := .raw _) (.head _)⟩
      · exact ⟨_, F.get (x := .raw _) (.tail _ (.head _))⟩
    · exact alive_frs U F.ext b h
  have Xp := F.ext
  refine useThr (step_end (i := i) (C.mono (by omega) (by omega)) (W.ext (small _) hD F.ext) U' (F.get (x := .raw _) (.head _)) (hdx.soft F.ext) ?_ hki) fun e T s' X' he hT htr hp => ?_
  · rcases hit with ⟨l, items, e, ⟨nl, hl⟩, e2, e3, e4⟩ | e
    · rw [hoi] at e; cases e
      exact .inl ⟨l, items, F.get (x := .raw _) (.tail _ (.head _)), ⟨nl, F.old (fun q => by
        rcases List.mem_append.mp q with h | h
        · simp at h; rcases h with h | h
          · exact e4 h
          · exact e3 h
        · exact U.notD hl (fun _ _ q => nomatch q) h) hl⟩, e2, e3⟩
    · rw [hoi] at e; cases e
      exact .inr (F.get (x := .raw _) (.tail _ (.head _)))
  · replace F := F.reU [(x, .raw (slO 93 dx (gbS (.int nn tn) ck cv hk (.bool false) ht (.ref it) kf se tk))), (it, .raw (liE i))] rfl U (by decide) hbig rfl X' (by simpa using hki) (fun d hd => .inr (by simp at hd; simp [hd])) ⟨hp.1, hp.2, trivial⟩
    have hal' : ∀ b ∈ [x, it] ++ frs A, ∃ o, s'.heap.get? b = some o := fun b hb => by
      rcases List.mem_append.mp hb with h | h
      · simp at h
        rcases h with rfl | rfl
        · exact ⟨_, F.get (x := .raw _) (.head _)⟩
        · exact ⟨_, F.get (x := .raw _) (.tail _ (.head _))⟩
      · exact alive_frs U F.ext b h
    refine throwOn (env := callEnv (fdM 11 3 "__next__" "_grouper.__next__" .none pm (.ref 133)) g.heap.objs.size 134) (R := fun r s' => Thr ([x, it] ++ frs A) g r s' ∧ s'.heap.get? x = some (slO 93 dx (gbS (.int nn tn) ck cv hk (.bool false) ht (.ref it) kf se tk)) ∧ s'.heap.get? it = some (liE i))
      F (fun b hb => .inl (hal' b hb)) U (by decide) hbig rfl rfl htr (gone_of Xp hal he) (gone_of Xp hal hT) fun r s' hthr hold => ⟨hthr.mono (fun d hd => (List.mem_append.mp hd).elim id fun h => List.mem_append_right _ h), ?_, ?_⟩
    · exact hold x _ (not_frs U rfl (Nat.le_refl _) hgb (fun _ _ q => nomatch q)) (fun q => by unfold Gone at q; rw [hgb] at q; cases q) (F.get (x := .raw _) (.head _))
    · exact hold it _ (not_frs U rfl (Nat.le_refl _) hoi hoid) (fun q => by unfold Gone at q; rw [hoi] at q; cases q) (F.get (x := .raw _) (.tail _ (.head _)))

theorem k_ginit (w : World) : ∃ pm, (KK w).lookup 68 = some ⟨.type "function", none, .func (fdM 10 1 "__init__" "groupby.__init__" (.ref 61) pm (.ref 67)), #[]⟩ := ⟨_, rfl⟩
theorem k_dflt (w : World) : ∃ o, (KK w).lookup 61 = some o ∧ ∃ n, o.data = .seq #[.none] n := ⟨_, rfl, _, rfl⟩
theorem g_init {w : World} {A : Around} {g : Shared} (C : Cx A 2 20) (W : Wo (KK w) g.heap) {x dx l lam : Addr} {items : Array Value} (hx : g.heap.get? x = some (slO 93 dx #[])) (hdx : DicE g.heap dx) (hl : g.heap.PlainList l items) (hkx : kmax ≤ x) :
    codeAny (model pw w) A (.call (.ref 68) ⟨[.ref x, .ref l, .ref lam], []⟩) (Ret fun v s' => v = .none ∧ (∃ it t t', g.heap.objs.size ≤ it ∧ s'.heap.get? x = some (slO 93 dx (gbS (.int 0 t) .none .none (.bool false) (.bool false) (.bool false) (.ref it) (.ref lam) (.int 0 t') .none)) ∧ s'.heap.get? it = some (liO l 0)) ∧ Ext [x] g s') g := by
  obtain ⟨pm, hkf⟩ := k_ginit w
  obtain ⟨od, hod, nd, hnd⟩ := k_dflt w
  refine callK [x] (d := 1) (u := 17) C W hkf (by kernel_rfl) rfl (binds_K (binds := [("self", .ref x), ("iterable", .ref l), ("key", .ref lam)]) W.X rfl hod hnd rfl rfl) rfl rfl rfl rfl rfl fun s₁ C X F => ?_
  have hD := okD1 hkx
  have hlx : l ≠ x := fun q => by obtain ⟨n, e⟩ := hl; rw [q, hx] at e; cases e
  replace F := F.put (x := .raw (slO 93 dx #[])) (a := x) (X.keep x _ (by simp) hx) (own_sl (by simp) hx) (Nat.ne_of_lt (Heap.lt_size hx)) (fun _ h => nomatch h)
  show wpAny _ _ (execs (_ :: _) _) _ _ _
  walk_at "go"
  refine setG (sl' := #[none, none, none, none, none, none, none, some (.ref lam)]) [] _ F rfl W (small _) hD (so_kf w) hdx rfl ?_
  clear F; intro s F
  walk_at "go"
  obtain ⟨nl, hl⟩ := hl
  refine iter_list (Heap.PlainList.isList ⟨nl, F.old (by simpa using hlx) hl⟩) ?_
  have hit := F.ltL
  replace F := F.push (liO l 0) (.raw (liO l 0)) s.toks (Heap.get?_push_size _ rfl)
  generalize s.heap.objs.size = it at *
  generalize ({ s with heap := s.heap.push (liO l 0), toks := s.toks } : Shared) = s2 at F ⊢
  walk_at "go"
  refine setG (sl' := #[none, none, none, none, none, none, some (.ref it), some (.ref lam)]) [(it, _)] _ F rfl W (small _) hD (so_it w) hdx rfl ?_
  clear F; intro s F
  walk_at "go"
  refine setG (sl' := #[none, none, none, none, none, some (.bool false), some (.ref it), some (.ref lam)]) [(it, _)] _ F rfl W (small _) hD (so_ht w) hdx rfl ?_
  clear F; intro s F
  walk_at "go"
  refine setG (sl' := #[none, none, none, none, none, some (.bool false), some (.ref it), some (.ref lam), none, some .none]) [(it, _)] _ F rfl W (small _) hD (so_tk w) hdx rfl ?_
  clear F; intro s F
  walk_at "go"
  refine setG (sl' := #[none, none, none, some (.bool false), none, some (.bool false), some (.ref it), some (.ref lam), none, some .none]) [(it, _)] _ F rfl W (small _) hD (so_hk w) hdx rfl ?_
  clear F; intro s F
  walk_at "go"
  refine setG (sl' := #[none, some .none, none, some (.bool false), none, some (.bool false), some (.ref it), some (.ref lam), none, some .none]) [(it, _)] _ F rfl W (small _) hD (so_ck w) hdx rfl ?_
  clear F; intro s F
  walk_at "go"
  refine setG (sl' := #[none, some .none, none, some (.bool false), some (.bool false), some (.bool false), some (.ref it), some (.ref lam), none, some .none]) [(it, _)] _ F rfl W (small _) hD (so_hv w) hdx rfl ?_
  clear F; intro s F
  walk_at "go"
  refine setG (sl' := #[none, some .none, some .none, some (.bool false), some (.bool false), some (.bool false), some (.ref it), some (.ref lam), none, some .none]) [(it, _)] _ F rfl W (small _) hD (so_cv w) hdx rfl ?_
  clear F; intro s F
  walk_at "go"
  refine setG (sl' := #[some (.int 0 t), some .none, some .none, some (.bool false), some (.bool false), some (.bool false), some (.ref it), some (.ref lam), none, some .none]) [(it, _)] _ F rfl W (small _) hD (so_cg w) hdx rfl ?_
  clear F; intro s F
  rename_i tt _
  walk_at "go"
  refine setG (sl' := gbS (.int 0 _) .none .none (.bool false) (.bool false) (.bool false) (.ref it) (.ref lam) (.int 0 t) .none) [(it, _)] _ F rfl W (small _) hD (so_se w) hdx rfl ?_
  clear F; intro s F
  walk_at "go"
  exact ⟨_, rfl, rfl, ⟨it, _, _, Nat.le_of_lt hit, F.get (x := .raw _) (.tail _ (.head _)), F.get (x := .raw _) (.head _)⟩, F.ext⟩
theorem g_make {w : World} {A : Around} {g : Shared} (C : Cx A 3 40) (W : Wo (KK w) g.heap) {l lam : Addr} {items : Array Value} (hl : g.heap.PlainList l items) :
    codeAny (model pw w) A (.call (.ref 93) ⟨[.ref l, .ref lam], []⟩) (Ret fun v s' => (∃ x dx it t t', v = .ref x ∧ g.heap.objs.size ≤ x ∧ g.heap.objs.size ≤ dx ∧ g.heap.objs.size ≤ it ∧ s'.heap.get? x = some (slO 93 dx (gbS (.int 0 t) .none .none (.bool false) (.bool false) (.bool false) (.ref it) (.ref lam) (.int 0 t') .none)) ∧ DicE s'.heap dx ∧ s'.heap.get? it = some (liO l 0)) ∧ Ext [] g s') g := by
  have hbig := W.big
  have hs : Ext [] g { g with heap := (g.heap.push emptyDict).push (instObj 93 g.heap.objs.size), toks := g.toks } := Ext.heap fun b o _ e => Heap.get?_push_of_some _ (Heap.get?_push_of_some _ e)
  have h1 : ((g.heap.push emptyDict).push (instObj 93 g.heap.objs.size)).get? (g.heap.objs.size + 1) = some (slO 93 g.heap.objs.size #[]) := by
    have := Heap.get?_push_size (o := instObj 93 g.heap.objs.size) (g.heap.push emptyDict) rfl
    rwa [Heap.size_push] at this
  have h2 : DicE ((g.heap.push emptyDict).push (instObj 93 g.heap.objs.size)) g.heap.objs.size := ⟨emptyDict, 0, Heap.get?_push_of_some _ (Heap.get?_push_size _ rfl), rfl⟩
  obtain ⟨nl, hl⟩ := hl
  refine make_core (h := g.heap) (g := g.gens) (d := g.drawn) (t := g.toks) (os := g.os) (makes_of W.X (by kernel_rfl)) (looks_findIn W.X (name := "__init__") (r := some (.ref 68)) rfl) (fun self => bind_fn W.X self (by kernel_rfl)) (.inl rfl) ?_
  refine codeAny_mono (g_init (A := A.under _) (g := { g with heap := (g.heap.push emptyDict).push (instObj 93 g.heap.objs.size), toks := g.toks }) (C.typ.mono (by omega) (by omega)) (W.ext (small _) ok0 hs) (x := g.heap.objs.size + 1) (dx := g.heap.objs.size) h1 h2 ⟨nl, hs.keep l _ (by simp) hl⟩ (Nat.le_succ_of_le hbig)) fun r s' hr => ?_
  obtain ⟨v, rfl, rfl, ⟨it, t, t', hit, ht1, ht2⟩, X⟩ := hr
  refine ⟨rfl, _, rfl, ⟨_, _, it, t, t', rfl, Nat.le_succ _, Nat.le_refl _, ?_, ht1, h2.soft X, ht2⟩, ((hs.mono (by simp)).trans X).less (fun d hd => ?_) (one_of (k := kmax) (fun d hd => ?_) (by decide))⟩
  · refine Nat.le_trans ?_ hit
    show g.heap.objs.size ≤ ((g.heap.push emptyDict).push (instObj 93 g.heap.objs.size)).objs.size
    rw [Heap.size_push, Heap.size_push]; omega
  · simp at hd; rcases hd with rfl
    exact .inr (Nat.le_succ _)
  · simp at hd; rcases hd with rfl
    exact Nat.le_succ_of_le hbig

theorem k_giter (w : World) : ∃ pm, (KK w).lookup 75 = some ⟨.type "function", none, .func (fdM 10 2 "__iter__" "groupby.__iter__" .none pm (.ref 74)), #[]⟩ := ⟨_, rfl⟩
theorem k_griter (w : World) : ∃ pm, (KK w).lookup 127 = some ⟨.type "function", none, .func (fdM 11 2 "__iter__" "_grouper.__iter__" .none pm (.ref 126)), #[]⟩ := ⟨_, rfl⟩
theorem g_iter {w : World} {A : Around} {g : Shared} (C : Cx A 2 20) (W : Wo (KK w) g.heap) {x : Addr} : codeAny (model pw w) A (.call (.ref 75) ⟨[.ref x], []⟩) (Ret fun v s' => v = .ref x ∧ Ext [] g s') g := by
  obtain ⟨pm, hkf⟩ := k_giter w
  refine callK [] (d := 1) (u := 17) C W hkf (by kernel_rfl) rfl (BindsTo.of_eq (binds := [("self", .ref x)]) rfl) rfl rfl rfl rfl rfl fun s C X F => ?_
  have hD := ok0
  show wpAny _ _ (execs (_ :: _) _) _ _ _
  walk_at "go"
  exact ⟨_, rfl, rfl, F.ext⟩
theorem gr_iter {w : World} {A : Around} {g : Shared} (C : Cx A 2 20) (W : Wo (KK w) g.heap) {x : Addr} : codeAny (model pw w) A (.call (.ref 127) ⟨[.ref x], []⟩) (Ret fun v s' => v = .ref x ∧ Ext [] g s') g := by
  obtain ⟨pm, hkf⟩ := k_griter w
  refine callK [] (d := 1) (u := 17) C W hkf (by kernel_rfl) rfl (BindsTo.of_eq (binds := [("self", .ref x)]) rfl) rfl rfl rfl rfl rfl fun s C X F => ?_
  have hD := ok0
  show wpAny _ _ (execs (_ :: _) _) _ _ _
  walk_at "go"
  exact ⟨_, rfl, rfl, F.ext⟩
/-- how a group has ended -/
def GroupEnd (g : Shared) (D : List Addr) (x it l dx lam : Addr) (nn : Value) (se tk : Value) (items : Array Value) (key : Value → Bool) (j : Nat) (s' : Shared) : Prop :=
  Ext D g s' ∧ ((∃ v, items[j]? = some v ∧ s'.heap.get? x = some (slO 93 dx (gbS nn (.bool (key v)) v (.bool true) (.bool true) (.bool true) (.ref it) (.ref lam) se tk)) ∧ s'.heap.get? it = some (liO l (j + 1))) ∨
    (items[j]? = none ∧ s'.heap.get? x = some (slO 93 dx (gbS nn .none .none (.bool false) (.bool false) (.bool true) (.ref it) (.ref lam) se tk)) ∧ s'.heap.get? it = some (liE j)))
theorem feed_mid {w : World} {A : Around} {g : Shared} (C : Cx A 6 90) (W : Wo (KK w) g.heap) (U : Up kmax A g.heap) {x it l dx y dy lam S : Addr} {se tk : Value} {nn : Int} {tn : Tok} {a : Bool} {items : Array Value} {key : Value → Bool} {ok : Value → Prop} {R : Result → Shared → Prop}
    (hdx : DicE g.heap dx) (hy : g.heap.get? y = some (slO 138 dy (grS (.int nn tn) (.ref x) (.bool a)))) (hdy : DicE g.heap dy) (hl : g.heap.PlainList l items) (hln : l ≠ it) (hlx : l ≠ x) (hyx : y ≠ x) (hyi : y ≠ it)
    (K : Key w ([x, it] ++ frs A) g lam key ok) (hkx : kmax ≤ x) (hki : kmax ≤ it) (hS : g.heap.objs.size ≤ S) (hSx : S ≠ x) (hSi : S ≠ it) (hSf : S ∉ frs A) :
    ∀ (n i : Nat) (acc : Array Value) (c : Nat) (s : Shared), (∀ m < n, ∃ v, items[i + m]? = some v ∧ ok v ∧ key v = a ∧ handedIn v = true) → ((∃ v, items[i + n]? = some v ∧ ok v ∧ key v ≠ a) ∨ items[i + n]? = none) → Ext ([x, it] ++ frs A) g s →
      s.heap.get? x = some (slO 93 dx (gbS (.int nn tn) .none .none (.bool false) (.bool false) (.bool true) (.ref it) (.ref lam) se tk)) → s.heap.get? it = some (liO l i) → s.heap.get? S = some (lsO acc c) → acc.size + n ≤ 100000 →
      (∀ s' c' acc', acc'.toList = acc.toList ++ (items.toList.drop i).take n → s'.heap.get? S = some (lsO acc' c') → GroupEnd g ([x, it] ++ frs A) x it l dx lam (.int nn tn) se tk items key (i + n) s' → R (.ok (.ret .none)) s') →
      Feed pw w A y S R .none (n + 1) acc s := by
  have hD := okDf (okD2 hkx hki) U
  have hyD : y ∉ [x, it] ++ frs A := fun q => by
    rcases List.mem_append.mp q with h | h
    · simp [hyx, hyi] at h
    · exact U.notD hy (fun _ _ q => nomatch q) h
  obtain ⟨nl, hl⟩ := hl
  have hlD : l ∉ [x, it] ++ frs A := fun q => by
    rcases List.mem_append.mp q with h | h
    · simp [hln, hlx] at h
    · exact U.notD hl (fun _ _ q => nomatch q) h
  intro n
  induction n with
  | zero =>
    intro i acc c s _ htail X hgb hit hSs hz fin
    have W' := W.ext (small _) hD X
    have U' := U.ext X
    rcases htail with ⟨v, hv, hok, hka⟩ | hnone
    · refine next_thr (D := [x, it] ++ frs A) W'.X (X.keep y _ hyD hy) (hdy.soft X) (f := 134) rfl (by kernel_rfl) (grn_diff C W' U' hgb (hdx.soft X) (X.keep y _ hyD hy) (hdy.soft X) hit ⟨nl, X.keep l _ hlD hl⟩ (by simpa using hv) hok hln hlx (K.on X) hka hkx hki) fun s' X' hp => ?_
      refine fin s' c acc (by simp) (X'.keep S _ (by simp [hSx, hSi, hSf]) hSs) ⟨X.trans X', .inl ⟨v, by simpa using hv, hp.1, hp.2⟩⟩
    · refine next_thr (D := [x, it] ++ frs A) W'.X (X.keep y _ hyD hy) (hdy.soft X) (f := 134) rfl (by kernel_rfl) (grn_end (i := i) C W' U' hgb (hdx.soft X) (X.keep y _ hyD hy) (hdy.soft X) (.inl ⟨l, items, hit, ⟨nl, X.keep l _ hlD hl⟩, by simpa using hnone, hln, hlx⟩) hkx hki) fun s' X' hp => ?_
      refine fin s' c acc (by simp) (X'.keep S _ (by simp [hSx, hSi, hSf]) hSs) ⟨X.trans X', .inr ⟨by simpa using hnone, hp.1, hp.2⟩⟩
  | succ n ih =>
    intro i acc c s hitems htail X hgb hit hSs hz fin
    have W' := W.ext (small _) hD X
    obtain ⟨v, hv, hok, hka, hh⟩ := hitems 0 (Nat.succ_pos n)
    refine next_ret W'.X (X.keep y _ hyD hy) (hdy.soft X) (f := 134) rfl (by kernel_rfl) (grn_step C W' hgb (hdx.soft X) (X.keep y _ hyD hy) (hdy.soft X) hit ⟨nl, X.keep l _ hlD hl⟩ (by simpa using hv) hok hln hlx ((K.on X).less fun d hd => List.mem_append_left _ hd) hka hh hkx hki) fun r s' hr => ?_
    obtain ⟨rfl, h1, h2, X'⟩ := hr
    have hSs' := X'.keep S _ (by simp [hSx, hSi]) hSs
    refine ⟨⟨c, hSs'⟩, by omega, fun h' c' hS' hsb => ?_⟩
    have X2 : Ext ([x, it] ++ frs A) g { s' with heap := h' } := (X.trans (X'.mono fun d hd => List.mem_append_left _ hd)).but (W := [S]) (tk := s'.toks) (fun b o hb e => (hsb.2 b (by simpa using hb)).trans e) (fun b hb => .inr (by rw [List.mem_singleton.mp hb]; exact hS))
    have hvl : (items.toList.drop i).take (n + 1) = r :: (items.toList.drop (i + 1)).take n := by
      have hv' : items.toList[i]? = some r := by simpa using hv
      obtain ⟨hlt, he⟩ := List.getElem?_eq_some_iff.mp hv'
      rw [List.drop_eq_getElem_cons hlt, he, List.take_succ_cons]
    refine ih (i + 1) (acc.push r) c' _ (fun m hm => ?_) ?_ X2 ((hsb.2 x (Ne.symm hSx)).trans h1) ((hsb.2 it (Ne.symm hSi)).trans h2) hS' (by rw [Array.size_push]; omega) fun s'' c'' acc' hacc hS'' hend => fin s'' c'' acc' ?_ hS'' ?_
    · have := hitems (m + 1) (by omega)
      rwa [show i + (m + 1) = i + 1 + m by omega] at this
    · rwa [show i + (n + 1) = i + 1 + n by omega] at htail
    · rw [hacc, hvl]; simp
    · rwa [show i + (n + 1) = i + 1 + n by omega]

theorem list_group {w : World} {A : Around} {g : Shared} {E : Value → Shared → Prop} {Q : Value → Shared → Prop} (C : Cx A 6 100) (W : Wo (KK w) g.heap) (hFr : FrIn (KK w) g.heap) (U : Up kmax A g.heap) {x it l dx y dy lam : Addr} {cv se tk : Value} {nn : Int} {tn : Tok} {a : Bool} {items : Array Value} {key : Value → Bool} {ok : Value → Prop} {i n : Nat}
    (hgb : g.heap.get? x = some (slO 93 dx (gbS (.int nn tn) (.bool a) cv (.bool true) (.bool true) (.bool true) (.ref it) (.ref lam) se tk))) (hit : g.heap.get? it = some (liO l i))
    (hdx : DicE g.heap dx) (hy : g.heap.get? y = some (slO 138 dy (grS (.int nn tn) (.ref x) (.bool a)))) (hdy : DicE g.heap dy) (hl : g.heap.PlainList l items) (hln : l ≠ it) (hlx : l ≠ x) (hcv : handedIn cv = true)
    (K : Key w ([x, it] ++ frs A) g lam key ok) (hkx : kmax ≤ x) (hki : kmax ≤ it)
    (hitems : ∀ m < n, ∃ v, items[i + m]? = some v ∧ ok v ∧ key v = a ∧ handedIn v = true) (htail : (∃ v, items[i + n]? = some v ∧ ok v ∧ key v ≠ a) ∨ items[i + n]? = none) (hz : n ≤ 10000)
    (hQ : ∀ S s' c acc, g.heap.objs.size ≤ S → acc.toList = cv :: (items.toList.drop i).take n → s'.heap.get? S = some (lsO acc c) → GroupEnd g ([x, it] ++ frs A) x it l dx lam (.int nn tn) se tk items key (i + n) s' → Q (.ref S) s') :
    wpAny (model pw w) A (call (.type "list") [.ref y]) Q E g := by
  have hyx : y ≠ x := fun q => by rw [q, hgb] at hy; cases hy
  have hyi : y ≠ it := fun q => by rw [q, hit] at hy; cases hy
  obtain ⟨od, ep, hod, hodd⟩ := id hdy
  have I : InstAt g.heap y (slO 138 dy (grS (.int nn tn) (.ref x) (.bool a))) 138 (some od) := ⟨hy, rfl, rfl, hod⟩
  have C2 : Cx A.in1.in1 6 90 := ((C.mono (d' := 6) (u' := 92) (by omega) (by omega)).in1 (u := 91)).in1 (u := 90)
  have hyD : y ∉ [x, it] ++ frs A := fun q => by
    rcases List.mem_append.mp q with h | h
    · simp [hyx, hyi] at h
    · exact U.notD hy (fun _ _ q => nomatch q) h
  refine list_feed (T := .ref 138) (n + 2) (Heap.lt_size hy) I.type rfl rfl (fun s₀ Q' E' X hq => ?_) ?_ ?_ fun S R s₁ c hS X hSs hok herr => ?_
  · exact iter_own (hFr.ext X) (X.keep y _ (by simp) hy) (hdy.soft X) (fi := 127) rfl (by kernel_rfl) (gv := .ref 134) rfl (gr_iter (C2.mono (by omega) (by omega)) (W.ext (small _) ok0 X)) hq
  · exact (I.type (M := model pw w)).andThen (looks_findIn W.X (by kernel_rfl))
  · exact (I.type (M := model pw w)).andThen (looks_findIn W.X (by kernel_rfl))
  · have W' := W.ext (small _) ok0 X
    refine next_ret W'.X (X.keep y _ (by simp) hy) (hdy.soft X) (f := 134) rfl (by kernel_rfl) (grn_have C2 W' (X.keep x _ (by simp) hgb) (hdx.soft X) (X.keep y _ (by simp) hy) (hdy.soft X) hkx hcv) fun r s' hr => ?_
    obtain ⟨rfl, h1, X'⟩ := hr
    have hSx : S ≠ x := fun q => by have := Heap.lt_size hgb; rw [← q] at this; exact absurd this (Nat.not_lt.mpr hS)
    have hSi : S ≠ it := fun q => by have := Heap.lt_size hit; rw [← q] at this; exact absurd this (Nat.not_lt.mpr hS)
    have hSf : S ∉ frs A := fun q => by
      obtain ⟨_, m, hn⟩ := U.mem q
      exact absurd hn.lt (Nat.not_lt.mpr hS)
    have hxi : it ≠ x := fun q => by rw [q, hgb] at hit; cases hit
    have hSs' := X'.keep S _ (by simp [hSx]) hSs
    refine ⟨⟨c, hSs'⟩, by simp, fun h' c' hS' hsb => ?_⟩
    have X2 : Ext ([x, it] ++ frs A) g { s' with heap := h' } := ((X.mono (by simp)).trans (X'.mono fun d hd => by rw [List.mem_singleton.mp hd]; simp)).but (W := [S]) (tk := s'.toks) (fun b o hb e => (hsb.2 b (by simpa using hb)).trans e) (fun b hb => .inr (by rw [List.mem_singleton.mp hb]; exact hS))
    exact feed_mid (A := A.in1.in1) C2 W U hdx hy hdy hl hln hlx hyx hyi K hkx hki hS hSx hSi hSf n i _ c' _ hitems htail X2 ((hsb.2 x (Ne.symm hSx)).trans h1) ((hsb.2 it (Ne.symm hSi)).trans (X'.keep it _ (by simp [hxi]) (X.keep it _ (by simp) hit))) hS' (by simp; omega) fun s'' c'' acc' hacc hS'' hend =>
      hok _ (hQ S s'' c'' acc' hS (by rw [hacc]; simp) hS'' hend)

def lamPos : Pos := { line := 136, col := 100, endLine := 136, endCol := 126 }
abbrev lamQual : Str := "regex_opt_inner.<locals>.<lambda>"
/-- the builtins' module -/
def ModOk (h : Heap) : Prop := ∃ ob, h.get? 4 = some ob ∧ ob.cls = .type "module" ∧ ob.dict = some builtinsNs ∧ ob.data = .plain
/-- a namespace made at or behind a place -/
def Mark (bb : Nat) (h : Heap) : Prop := ∃ (a : Addr) (o : Obj), bb ≤ a ∧ h.get? a = some o ∧ ∃ es ep, o.data = .dict es ep
theorem Mark.keep {bb : Nat} {h h' : Heap} (M : Mark bb h) (k : ∀ b o, h.get? b = some o → (∃ es ep, o.data = .dict es ep) → ∃ sl, h'.get? b = some { o with slots := sl }) : Mark bb h' := by
  obtain ⟨a, o, h1, h2, h3⟩ := M
  obtain ⟨sl, e⟩ := k a o h2 h3
  exact ⟨a, _, h1, e, h3⟩
theorem Mark.same {bb : Nat} {h h' : Heap} {L : Addr} {m' : Str → Option Value} (M : Mark bb h) (hs : Heap.SameBut L h h') (hn' : h'.Ns L m') : Mark bb h' := by
  obtain ⟨a, o, h1, h2, h3⟩ := M
  by_cases q : a = L
  · subst q
    obtain ⟨o', es, ep, ho, hd, _⟩ := hn'
    exact ⟨a, o', h1, ho, es, ep, hd⟩
  · exact ⟨a, o, h1, (hs.2 a q).trans h2, h3⟩
def TabOk (bb : Nat) (h : Heap) : Prop := ModOk h ∧ ∃ ps, h.get? 145 = some (tabObj ps) ∧ TriplesOk ps.toList ∧ Mark bb h ∧ ∀ cv, codeAmong lamPos ps.toList = some cv → h.CodeRec cv lamQual ∧ ∃ c, cv = .ref c ∧ bb ≤ c
theorem TabOk.ext {D : List Addr} {s s' : Shared} (T : TabOk bb s.heap) (x : Ext D s s') (hk : ∀ d ∈ D, kmax ≤ d) (hD : ∀ d ∈ D, ∀ o vs, s.heap.get? d = some o → o.data = .fields vs → ∀ q t, vs[1]? ≠ some (.str q t)) : TabOk bb s'.heap := by
  obtain ⟨⟨ob, hb, hb'⟩, ps, hp, ht, hmk, hc⟩ := T
  have n1 : (145 : Addr) ∉ D := fun q => absurd (hk _ q) (by decide)
  have n2 : (4 : Addr) ∉ D := fun q => absurd (hk _ q) (by decide)
  refine ⟨⟨ob, x.keep _ _ n2 hb, hb'⟩, ps, x.keep _ _ n1 hp, ht, hmk.keep x.soft, fun cv hcv => ?_⟩
  obtain ⟨⟨c, oc, vs, tq, e1, e2, e3, e4⟩, hge⟩ := hc cv hcv
  exact ⟨⟨c, oc, vs, tq, e1, x.keep c oc (fun q => hD c q oc vs e2 e3 _ _ e4) e2, e3, e4⟩, hge⟩
theorem TabOk.step {s s' : Shared} (T : TabOk bb s.heap) (x : Ext [] s s') : TabOk bb s'.heap := T.ext x (fun _ h => nomatch h) (fun _ h => nomatch h)
theorem codeHd_of {w : World} {h : Heap} (W : Wo (KK w) h) : CodeHd h 147 145 := by
  have e : ∃ vs, (KK w).lookup 147 = some ⟨.type "code", none, .fields vs, #[]⟩ ∧ vs[11]? = some (.ref 145) ∧ (∃ file tf, vs.getD 18 .none = .str file tf) ∧ (∃ fl tg, vs.getD 7 .none = .int fl tg) ∧ (∃ b, vs.getD 9 .none = .bool b) ∧ ∃ x tt, vs.getD 10 .none = .int x tt :=
    ⟨_, rfl, rfl, ⟨_, _, rfl⟩, ⟨_, _, rfl⟩, ⟨_, rfl⟩, _, _, rfl⟩
  obtain ⟨vs, e, e1, ⟨file, tf, e2⟩, ⟨fl, tg, e3⟩, ⟨b, e4⟩, x, tt, e5⟩ := e
  exact ⟨_, vs, file, tf, fl, tg, b, x, tt, W.X 147 _ e, rfl, rfl, e1, by rw [Array.getD_eq_getD_getElem?, e1]; rfl, e2, e3, e4, e5, by decide⟩
/-- a generator expression's code -/
theorem genCode {w : World} {M : Model} {A : Around} {E : Value → Shared → Prop} {s : Shared} {env : Env} {pos : Pos} {q : Str} {scope : Scope} {Q : Value → Shared → Prop} (W : Wo (KK w) s.heap) (T : TabOk bb s.heap) (hc : env.code = .ref 147) (hne : (pos.line == lamPos.line && pos.col == lamPos.col) = false)
    (h : ∀ code h' tk, TabOk bb h' → (∀ b o, b ≠ 145 → s.heap.get? b = some o → h'.get? b = some o) → Q code { s with heap := h', toks := tk }) : wpAny M A (genexprCode env pos q scope) Q E s := by
  obtain ⟨⟨ob, hb, hb'⟩, ps, hp, ht, hmk, hcs⟩ := id T
  have H := codeHd_of W
  cases hn : codeAmong pos ps.toList with
  | some c' => exact wpAny_genexprCode_hit hc (H.code hp ht) hn (h c' s.heap s.toks T fun _ _ _ e => e)
  | none =>
    refine wpAny_genexprCodeX hc (H.code hp ht) (H.tab hp) hn fun c' h' tk hx hge hlt _ hrec htb _ => h _ h' tk ⟨⟨ob, hx _ _ (by decide) hb, hb'⟩, _, htb.2, ?_, hmk.keep fun b o e hd => ⟨o.slots, hx b o (fun q => by obtain ⟨es, ep, hd⟩ := hd; rw [q, hp] at e; cases e; cases hd) e⟩, fun cv hcv => ?_⟩ fun b o hb e => hx b o hb e
    · simp only [Array.toList_append]; exact TriplesOk_snoc _ _ _ _ ht
    · simp only [Array.toList_append] at hcv
      rw [codeAmong_other hne _ ht] at hcv
      obtain ⟨⟨c, oc, vs, tq, e1, e2, e3, e4⟩, hge2⟩ := hcs cv hcv
      refine ⟨⟨c, oc, vs, tq, e1, hx c oc (fun q => ?_) e2, e3, e4⟩, hge2⟩
      rw [q, hp] at e2; cases e2; cases e3
      have h1 : ps.toList[1]? = some (.str lamQual tq) := by simpa using e4
      generalize ps.toList = l at ht h1
      match l, ht, h1 with
      | [], _, h1 => simp at h1
      | [_], _, h1 => simp at h1
      | a :: b :: r, ht, h1 =>
        have hb : b = .str lamQual tq := by simpa using h1
        subst hb
        cases a <;> cases r <;> exact ht.elim
theorem k_inner (w : World) : ∃ pm, (KK w).lookup 148 = some ⟨.type "function", none, .func (fdI 13 "regex_opt_inner" pm (.ref 147)), #[]⟩ := ⟨_, rfl⟩
/-- room for n levels -/
abbrev CxN (A : Around) (n : Nat) : Prop := Cx A (6 * n + 20) (40 * n + 300)
/-- what a call of regex_opt_inner gives -/
abbrev InnerPost (bb : Nat) (A : Around) (g : Shared) (x : List Nat) (v : Value) (s' : Shared) : Prop := (∃ t', v = .str (S x) t') ∧ TabOk bb s'.heap ∧ Ext ([145] ++ frs A) g s'
def InnerAt (bb : Nat) (w : World) (n : Nat) : Prop := ∀ (A : Around) (g : Shared) (a : Addr) (items : Array Value) (ws : List (List Nat)) (op : List Nat) (t : Tok), CxN A n → Wo (KK w) g.heap → Up kmax A g.heap → TabOk bb g.heap → g.heap.PlainList a items → SV items.toList ws → Good ws → mu ws ≤ n → (op = [] ∨ op = [40] ∨ op = nc) →
  codeAny (model pw w) A (.call (.ref 148) ⟨[.ref a, .str (S op) t], []⟩) (Ret (InnerPost bb A g (rx n ws op))) g
section
variable {prog : Program} {w : World} {A : Around} {D : List Addr} {g s : Shared} {L : Addr} {m : Str → Option Value} {news : List (Addr × Sh)} {env : Env} {pos : Pos} {E : Value → Shared → Prop} {Q : Value → Shared → Prop} {P : Heap → Prop}
theorem cSP (F : Fs D g L m news s) (hP : P s.heap) {x : Str} {a : List Nat} {k : Nat} (e : x = S a) (h : ∀ t s', Fs D g L m news s' → P s'.heap → Q (.str (S a) t) s') : wpAny (model prog w) A (eval (.Constant (.str x) k pos) env) Q E s := by
  subst e; exact wpAny_Constant_str (h _ _ (F.tk _) hP)
theorem addP (F : Fs D g L m news s) (hP : P s.heap) {a b : List Nat} {t u : Tok} (hsz : a.length + b.length ≤ 1000000) (h : ∀ t s', Fs D g L m news s' → P s'.heap → Q (.str (S (a ++ b)) t) s') :
    wpAny (model prog w) A (binaryOp .Add (.str (S a) t) (.str (S b) u)) Q E s :=
  PyProof.Rows.add_str (fun t' tk => by rw [S_app]; exact h _ _ (F.tk _) hP) (by rw [S_len, S_len, sizeLine_eq]; omega)
end
theorem lit_nc : (Str.ofString "(?:").cps.toList = nc := by decide +kernel
theorem lit_q : (Str.ofString "?").cps.toList = [63] := by decide +kernel
theorem lit_bar : (Str.ofString "|").cps.toList = [124] := by decide +kernel
theorem lit_rp : (Str.ofString ")").cps.toList = [41] := by decide +kernel
theorem new145 {g : Shared} {news : List (Addr × Sh)} (hb : kmax ≤ g.heap.objs.size) (h : ∀ p ∈ news, g.heap.objs.size ≤ p.1) : ∀ p ∈ news, p.1 ∉ [145] := fun p hp q => by
  have h1 := Nat.le_trans hb (h p hp)
  rw [List.mem_singleton.mp q] at h1
  exact absurd h1 (by decide)
/-- one more call of regex_opt_inner -/
theorem inner_again {w : World} {n : Nat} (ih : InnerAt bb w n) {A : Around} {E : Value → Shared → Prop} {Q : Value → Shared → Prop} {g s : Shared} {L : Addr} {m : Str → Option Value} {news : List (Addr × Sh)} {env : Env} {a : Addr} {items : Array Value} {ws : List (List Nat)} {op : List Nat} {t : Tok}
    (F : Fs [145] g L m news s) (C : CxN (A.deeper env) n) (W : Wo (KK w) g.heap) (U : Up kmax A g.heap) (hL : L = g.heap.objs.size) (hf : env.frame = some L) (hkf : env.scope.kind = .function) (T : TabOk bb s.heap) (hl : s.heap.PlainList a items) (hv : SV items.toList ws) (G : Good ws) (hm : mu ws ≤ n) (hop : op = [] ∨ op = [40] ∨ op = nc)
    (hnew : ∀ p ∈ news, g.heap.objs.size ≤ p.1)
    (h : ∀ t' s', Fs ([145] ++ frs A) g L m news s' → TabOk bb s'.heap → Q (.str (S (rx n ws op)) t') s') : wpAny (model pw w) (A.deeper env) (call (.ref 148) [.ref a, .str (S op) t]) Q E s := by
  subst hL
  have hbig := W.big
  refine use (ih _ s a items ws op t C (W.ext (small _) (fun b hb => .inl (by simpa using hb)) F.ext) (U.deep F hbig hf hkf) T hl hv G hm hop) fun v s' hp => ?_
  obtain ⟨⟨t', rfl⟩, T', X⟩ := hp
  exact h t' s' (F.after U (by decide) hbig hf X (fun d hd => .inl hd) id (new145 hbig hnew)) T'

def stI (i j : Nat) : Stmt := match (bodyI i)[j]? with | some s => s | none => .Pass default
abbrev env13 (pm : Value) (g : Shared) : Env := callEnvC (fdI 13 "regex_opt_inner" pm (.ref 147)) g.heap.objs.size 148
abbrev cells13 (L : Addr) (v1 v2 v3 : Option Value) : List (Addr × Sh) := [(L + 3, .cell v1), (L + 2, .cell v2), (L + 1, .cell v3)]
theorem new13 {g : Shared} (v1 v2 v3 : Option Value) : ∀ p ∈ cells13 g.heap.objs.size v1 v2 v3, g.heap.objs.size ≤ p.1 := fun p hp => by
  simp at hp
  rcases hp with rfl | rfl | rfl <;> exact Nat.le_add_right _ _
theorem ones_snoc (ws : List (List Nat)) (x : List Nat) : ones (ws ++ [x]) = if x.length = 1 then ones ws ++ [x] else ones ws := by
  unfold ones
  rw [List.filter_append]
  by_cases h : x.length = 1
  · rw [if_pos h, List.filter_cons_of_pos (by simpa using h)]; rfl
  · rw [if_neg h, List.filter_cons_of_neg (by simpa using h)]; simp
theorem rests_snoc (ws : List (List Nat)) (x : List Nat) : rests (ws ++ [x]) = if x.length = 1 then rests ws else rests ws ++ [x] := by
  unfold rests
  rw [List.filter_append]
  by_cases h : x.length = 1
  · rw [if_pos h, List.filter_cons_of_neg (by simpa using h)]; simp
  · rw [if_neg h, List.filter_cons_of_pos (by simpa using h)]; rfl
theorem inner5 {w : World} {n : Nat} (ih : InnerAt bb w n) {A : Around} {g s : Shared} {pm : Value} (C : Cx (A.deeper (env13 pm g)) (6 * n + 25) (40 * n + 337)) (W : Wo (KK w) g.heap) (U : Up kmax A g.heap) (T : TabOk bb g.heap) {a : Addr} {items : Array Value} {w1 w2 : List Nat} {ws : List (List Nat)} {op : List Nat} {tO t1 tw : Tok}
    (hl : g.heap.PlainList a items) (hv : SV items.toList (w1 :: w2 :: ws)) (G : Good (w1 :: w2 :: ws)) (hm : mu (w1 :: w2 :: ws) ≤ n + 1) (hopl : op.length ≤ 3) (hw0 : w1 ≠ [])
    (F : Fs [] g g.heap.objs.size (lk [("close_paren", .str (S (clo op)) t1), ("strings", .ref a), ("open_paren", .str (S op) tO)]) (cells13 g.heap.objs.size none (some (.str (S w1) tw)) none) s) :
    wpAny (model pw w) (A.deeper (env13 pm g)) (exec (stI 13 5) (env13 pm g)) (fun f s' =>
      (f = .next ∧ ¬ (w1.length = 1 ∧ 1 < (ones (w1 :: w2 :: ws)).length) ∧ Fs [] g g.heap.objs.size (lk [("close_paren", .str (S (clo op)) t1), ("strings", .ref a), ("open_paren", .str (S op) tO)]) (cells13 g.heap.objs.size none (some (.str (S w1) tw)) none) s') ∨
      (∃ v, f = .ret v ∧ InnerPost bb A g (rx (n + 1) (w1 :: w2 :: ws) op) v s')) (fun _ _ => False) s := by
  have hD : okD tabP kmax [] := ok0
  have hbig := W.big
  have hzi : items.size = (w1 :: w2 :: ws).length := by rw [← Array.length_toList]; exact hv.len
  have hlen := G.len
  have hw1 := G.sz w1 (.head _)
  have hcl := clo_len op
  obtain ⟨nl, hl⟩ := hl
  show wpAny _ _ (exec (.If _ _ _ _) _) _ _ _
  walk_at "go"
  refine lenS F (by omega) ?_
  clear F; intro tl s F
  walk_at "go"
  split
  · rename_i h1
    have h1 : w1.length = 1 := by have h : (w1.length : Int) = 1 := (by simpa using h1); omega
    walk_at "go"
    have hL1 := F.ltL
    refine newL F (by simp) ?_
    clear F; intro o1 s F ho1
    have ho1 := Nat.le_trans (Nat.le_of_lt hL1) ho1
    walk_at "go"
    have hL2 := F.ltL
    refine newL F (by simp) ?_
    clear F; intro r1 s F hr1
    have hr1 := Nat.le_trans (Nat.le_of_lt hL2) hr1
    walk_at "go"
    refine wpAny_For ?_
    walk_at "go"
    refine iterL F (items := items) ⟨nl, F.old (by simp) hl⟩ fun I oI s F hit he hne => ?_
    have hag : s.heap.get? a = some _ := F.old (by simp) hl
    refine forW (fun i m nw => AllK m [("rest", .ref r1), ("oneletter", .ref o1), ("close_paren", .str (S (clo op)) t1), ("strings", .ref a), ("open_paren", .str (S op) tO)] ∧ ∃ ys1 ys2, SV ys1 (ones ((w1 :: w2 :: ws).take i)) ∧ SV ys2 (rests ((w1 :: w2 :: ws).take i)) ∧
      nw = (r1, .list ys2.toArray) :: (o1, .list ys1.toArray) :: cells13 g.heap.objs.size none (some (.str (S w1) tw)) none) [(a, seqObj "list" items nl)] (listWalks C.hh hne items) (by simp) (by simp) (fun i h hst => let ⟨⟨o, e, _⟩, _⟩ := hst; ⟨o, e⟩) F ⟨hit, ⟨_, hag, rfl, nl, rfl⟩⟩ ⟨⟨rfl, rfl, rfl, rfl, rfl, trivial⟩, [], [], .nil, .nil, rfl⟩ (fun i m nw s' o _ F' p hp => by rw [List.mem_singleton.mp hp]; exact F'.old (by simp) hl) rfl rfl rfl ?_ ?_
    · rintro i v m nw o s E' hi hv' ⟨hm', ys1, ys2, hy1, hy2, rfl⟩ F
      obtain ⟨x, tx, hxi, rfl⟩ := hv.get (i := i) (v := v) (by simpa using hv')
      have hxl := G.sz x (List.mem_of_getElem? hxi)
      have htk : (w1 :: w2 :: ws).take (i + 1) = (w1 :: w2 :: ws).take i ++ [x] := by rw [List.take_add_one, hxi]; rfl
      have hl1 := hy1.len
      have hl2 := hy2.len
      have hb1 : (ones ((w1 :: w2 :: ws).take i)).length ≤ 30 := Nat.le_trans (List.length_filter_le _ _) (Nat.le_trans (by rw [List.length_take]; exact Nat.min_le_right _ _) hlen)
      have hb2 : (rests ((w1 :: w2 :: ws).take i)).length ≤ 30 := Nat.le_trans (List.length_filter_le _ _) (Nat.le_trans (by rw [List.length_take]; exact Nat.min_le_right _ _) hlen)
      replace F := F.as [("s", .str (S x) tx), ("rest", .ref r1), ("oneletter", .ref o1), ("close_paren", .str (S (clo op)) t1), ("strings", .ref a), ("open_paren", .str (S op) tO)] ⟨rfl, hm'.1, hm'.2.1, hm'.2.2.1, hm'.2.2.2.1, hm'.2.2.2.2.1, trivial⟩
      walk_at "go"
      refine lenS F (by omega) ?_
      clear F; intro tl s F
      walk_at "go"
      split
      · rename_i hx1
        have hx1 : x.length = 1 := by have h : (x.length : Int) = 1 := (by simpa using hx1); omega
        walk_at "go"
        refine gmApp (F.get (x := .list ys1.toArray) (.tail _ (.tail _ (.head _)))) ?_
        walk_at "go"
        refine appL F [(I, .raw o), (r1, .list ys2.toArray)] _ rfl (by rw [List.size_toArray, hl1]; omega) ?_
        clear F; intro s F
        walk_at "go"
        exact ⟨_, _, F, ⟨rfl, rfl, rfl, rfl, rfl, trivial⟩, ys1 ++ [.str (S x) tx], ys2, by rw [htk, ones_snoc, if_pos hx1]; exact hy1.snoc _ _, by rw [htk, rests_snoc, if_pos hx1]; exact hy2, by simp⟩
      · rename_i hx1
        have hx1 : x.length ≠ 1 := fun q => by have h : ¬ (x.length : Int) = 1 := (by simpa using hx1); omega
        walk_at "go"
        refine gmApp (F.get (x := .list ys2.toArray) (.tail _ (.head _))) ?_
        walk_at "go"
        refine appL F [(I, .raw o)] _ rfl (by rw [List.size_toArray, hl2]; omega) ?_
        clear F; intro s F
        walk_at "go"
        exact ⟨_, _, F, ⟨rfl, rfl, rfl, rfl, rfl, trivial⟩, ys1, ys2 ++ [.str (S x) tx], by rw [htk, ones_snoc, if_neg hx1]; exact hy1, by rw [htk, rests_snoc, if_neg hx1]; exact hy2.snoc _ _, by simp⟩
    · rintro m nw s ⟨hm', ys1, ys2, hy1, hy2, rfl⟩ F
      rw [hzi, List.take_of_length_le (Nat.le_refl _)] at hy1 hy2
      have hk1 := hy1.len
      have hk2 := hy2.len
      have hb1 : (ones (w1 :: w2 :: ws)).length ≤ 30 := Nat.le_trans (List.length_filter_le _ _) hlen
      have hb2 : (rests (w1 :: w2 :: ws)).length ≤ 30 := Nat.le_trans (List.length_filter_le _ _) hlen
      have hmo := meas_ones (w1 :: w2 :: ws)
      have hko := ones_meas (w1 :: w2 :: ws)
      have hof := ones_flat (w1 :: w2 :: ws)
      have hfs := flat_sum (ones (w1 :: w2 :: ws))
      have hcs := cs_len (ones (w1 :: w2 :: ws)).flatten
      replace F := F.as [("rest", .ref r1), ("oneletter", .ref o1), ("close_paren", .str (S (clo op)) t1), ("strings", .ref a), ("open_paren", .str (S op) tO)] ⟨hm'.1, hm'.2.1, hm'.2.2.1, hm'.2.2.2.1, hm'.2.2.2.2.1, trivial⟩
      walk_at "go"
      refine lenL F (items := ys1.toArray) (Heap.PlainList.isList (F.get (x := .list _) (.tail _ (.head _)))) (by rw [List.size_toArray, hk1]; omega) ?_
      clear F; intro tl s F
      walk_at "go"
      split
      · rename_i h3
        have h3 : 1 < (ones (w1 :: w2 :: ws)).length := by
          have h : ((ys1.toArray.size : Nat) : Int) > 1 := by simpa using h3
          rw [List.size_toArray, hk1] at h; omega
        walk_at "go"
        refine truL F (items := ys2.toArray) (Heap.PlainList.isList (F.get (x := .list _) (.head _))) (by rw [List.size_toArray, hk2]; omega) ?_
        clear F; intro s F
        split
        · rename_i h4
          have h4 : rests (w1 :: w2 :: ws) ≠ [] := fun q => by
            rw [q] at hy2
            cases hy2
            simp at h4
          walk_at "go"
          refine inner_again ih (F.moreD (by simp)) (C.mono (by omega) (by omega)) W U rfl rfl rfl (T.step F.ext) (F.get (x := .list _) (.head _)) (by simpa using hy2) (rests_good G) (mu_rests hm (by omega)) (.inl lit_nil) ?_ ?_
          · intro p hp
            rcases List.mem_cons.mp hp with rfl | hp
            · exact hr1
            rcases List.mem_cons.mp hp with rfl | hp
            · exact ho1
            · exact new13 _ _ _ p hp
          clear F; intro t2 s F T'
          rw [show (Str.ofString "").cps.toList = [] from lit_nil]
          have hrl := rx_le (n := n) (op := []) (rests_good G)
          refine addP F T' (by simp only [List.length_nil] at hrl; omega) ?_
          clear F T'; intro t3 s F T'
          refine cSP F T' (S_of _) ?_
          clear F T'; intro t4 s F T'
          rw [lit_bar]
          refine addP F T' (by simp only [List.length_append, List.length_cons, List.length_nil] at hrl ⊢; omega) ?_
          clear F T'; intro t5 s F T'
          have hD : okD tabP kmax ([145] ++ frs A) := okDf (fun b hb => .inl (by simpa using hb)) U
          walk_at "go"
          refine use (charset_spec (C.mono (by omega) (by omega)) (W.ext (small _) hD F.ext) (F.get (x := .list _) (.tail _ (.head _))) (by simpa using hy1) (by omega)) fun r s' hr => ?_
          obtain ⟨⟨te, rfl⟩, X'⟩ := hr
          replace F := F.step X'
          replace T' := T'.step X'
          refine addP F T' (by simp only [List.length_append, List.length_cons, List.length_nil] at hrl ⊢; omega) ?_
          clear F T'; intro t6 s F T'
          walk_at "nm"
          refine addP F T' (by simp only [List.length_append, List.length_cons, List.length_nil] at hrl ⊢; omega) ?_
          clear F T'; intro t7 s F T'
          exact .inr ⟨_, rfl, ⟨t7, by rw [rx, if_neg hw0, if_pos ⟨h1, h3⟩, if_neg h4]⟩, T', F.ext⟩
        · rename_i h4
          have h4 : rests (w1 :: w2 :: ws) = [] := by
            cases hq : rests (w1 :: w2 :: ws) with
            | nil => rfl
            | cons x r =>
              rw [hq] at hk2
              exact absurd (by cases ys2 with | nil => simp at hk2 | cons => rfl) h4
          walk_at "go"
          refine use (charset_spec (C.mono (by omega) (by omega)) (W.ext (small _) hD F.ext) (F.get (x := .list _) (.tail _ (.head _))) (by simpa using hy1) (by omega)) fun r s' hr => ?_
          obtain ⟨⟨te, rfl⟩, X'⟩ := hr
          replace F := F.step X'
          refine addS F (by omega) ?_
          clear F; intro t6 s F
          walk_at "go"
          refine addS F (by simp only [List.length_append]; omega) ?_
          clear F; intro t7 s F
          exact .inr ⟨_, rfl, ⟨t7, by rw [rx, if_neg hw0, if_pos ⟨h1, h3⟩, if_pos h4]⟩, T.step F.ext, F.ext.mono (by simp)⟩
      · rename_i h3
        have h3 : ¬ 1 < (ones (w1 :: w2 :: ws)).length := fun q => by
          have h : ¬ ((ys1.toArray.size : Nat) : Int) > 1 := by simpa using h3
          rw [List.size_toArray, hk1] at h; omega
        walk_at "go"
        exact .inl ⟨rfl, fun q => h3 q.2, (F.drop ((List.sublist_cons_self _ _).trans (List.sublist_cons_self _ _))).as _ ⟨rfl, rfl, rfl, trivial⟩⟩
  · rename_i h1
    have h1 : w1.length ≠ 1 := fun q => by have h : ¬ (w1.length : Int) = 1 := (by simpa using h1); omega
    walk_at "go"
    exact .inl ⟨rfl, fun q => h1 q.1, F⟩

theorem sv_of : ∀ (vs : List Value) (ss : List (List Nat)), vs.length = ss.length → (∀ (j : Nat) (v : Value), vs[j]? = some v → ∃ x t, ss[j]? = some x ∧ v = .str (S x) t) → SV vs ss
  | [], [], _, _ => .nil
  | [], _ :: _, h, _ => by simp at h
  | _ :: _, [], h, _ => by simp at h
  | v :: vs, x :: ss, h, hp => by
    obtain ⟨y, t, h1, rfl⟩ := hp 0 v rfl
    have : x = y := by simpa using h1
    subst this
    exact .cons (sv_of vs ss (by simpa using h) fun j u hj => hp (j + 1) u hj)
theorem passing_all (n : Nat) : passing (fun _ => true) n 0 = List.range n := by unfold passing; simp
theorem bi_at {w : World} {h : Heap} (W : Wo (KK w) h) (T : ModOk h) : ∃ mg ob, h.Ns mainGlobals mg ∧ mg "__builtins__" = some (.ref 4) ∧ h.get? 4 = some ob ∧ ob.cls = .type "module" ∧ ob.dict = some builtinsNs ∧ ob.data = .plain := by
  obtain ⟨mg, n⟩ := W.g
  obtain ⟨ob, hb, h1, h2, h3⟩ := T
  exact ⟨mg, ob, n, mg_of W.X n rfl, hb, h1, h2, h3⟩
/-- sorted(s[:-slen] for s in strings) -/
theorem sorted_cut {w : World} {A : Around} {E : Value → Shared → Prop} {Q : Value → Shared → Prop} {g s : Shared} {m : Str → Option Value} {news : List (Addr × Sh)} {pm : Value} {pos px ip ep1 ep2 ep3 ep4 ep5 : Pos} {a k : Nat} {tk : Tok} {items : Array Value} {ws : List (List Nat)}
    (C : Cx A 6 60) (W : Wo (KK w) g.heap) (F : Fs [] g g.heap.objs.size m news s) (T : TabOk bb s.heap) (hm : m "strings" = some (.ref a)) (hcell : s.heap.IsCell (g.heap.objs.size + 3) (some (.int k tk))) (hl : s.heap.PlainList a items) (hv : SV items.toList ws) (hk : 0 < k) (hz : ws.length < 64) (hsz : ∀ x ∈ ws, x.length ≤ 200)
    (hpos : (pos.line == lamPos.line && pos.col == lamPos.col) = false)
    (fin : ∀ c ys ts s'' e, SV ys ts → ts.Perm (cutE k ws) → Rising ts → Ext [145] s s'' → TabOk bb s''.heap → s.heap.objs.size ≤ c → s''.heap.get? c = some (lsO ys.toArray e) → Q (.ref c) s'') :
    wpAny (model pw w) A (eval (.GeneratorExp (.Subscript (.Name "s" ep1) (.Slice none (some (.UnaryOp .USub (.Name "slen" ep2) ep3)) none ep4) ep5) [⟨.Name "s" px, .Name "strings" ip, [], 0⟩]
      { kind := .function, names := [(".0", .local), ("s", .local), ("slen", .free)], isGenerator := true, isCoroutine := false } pos) (env13 pm g)) (fun v s' => wpAny (model pw w) A (call (.builtin "sorted") [v]) Q E s') E s := by
  have Ws := W.ext (small _) ok0 F.ext
  obtain ⟨nl, hal⟩ := hl
  have hlt := Heap.lt_size hal
  refine wpAny_GeneratorExp_walksQ (cl := [("slen", g.heap.objs.size + 3)]) C.hh rfl rfl (by decide) rfl rfl rfl (by have := C.dp; omega) (ld F hm ?_) (by intro _; rfl)
  have X1 : Ext [] s { s with heap := s.heap.push (liO a 0) } := Ext.heap (s := s) (tk := s.toks) fun b o _ e => Heap.get?_push_of_some _ e
  refine wpAny_pyIter_list ⟨_, hal, rfl, nl, rfl⟩ ⟨(Ws.ext (small _) ok0 X1).lim, ?_⟩
  refine genCode (Ws.ext (small _) ok0 X1) (T.step X1) rfl hpos fun code h' tk' T' hkp => ?_
  have hI1 : (s.heap.push (liO a 0)).get? s.heap.objs.size = some (liO a 0) := Heap.get?_push_size _ rfl
  have h145 : ∀ b o, s.heap.get? b = some o → (∃ es ep, o.data = .dict es ep) → b ≠ 145 := fun b o e hd q => by
    obtain ⟨_, ps, hp, _⟩ := T
    obtain ⟨es, ep, hd⟩ := hd
    rw [q, hp] at e; cases e; cases hd
  have hbig := W.big
  have hgs : g.heap.objs.size < s.heap.objs.size := F.ltL
  have kp1 : ∀ b o, b ≠ 145 → s.heap.get? b = some o → h'.get? b = some o := fun b o hb e => hkp b o hb (Heap.get?_push_of_some _ e)
  have n145 : ∀ b : Addr, g.heap.objs.size ≤ b → b ≠ 145 := fun b hb q => absurd (Nat.le_trans hbig hb) (by rw [q]; decide)
  have X2 : Ext [145] s { s with heap := h', toks := tk' } := ⟨fun b o hb e => kp1 b o (by simpa using hb) e, rfl, fun _ _ e => e, id, fun b o e hd => ⟨o.slots, kp1 b o (h145 b o e hd) e⟩⟩
  have W3 := Ws.ext (small _) (fun b hb => .inl (by simpa using hb)) X2
  obtain ⟨mg, ob, hmg, hb1, hb2, hb3, hb4, hb5⟩ := bi_at W3 T'.1
  refine wpAny_builtinsFor hmg hb1 (by decide) hb2 hb3 hb4 hb5 ?_
  have hI2 : h'.get? s.heap.objs.size = some (liO a 0) := hkp _ _ (n145 _ (Nat.le_of_lt hgs)) hI1
  have hne : a ≠ s.heap.objs.size := Nat.ne_of_lt hlt
  have ha145 : a ≠ 145 := fun q => by
    obtain ⟨_, ps, hp, _⟩ := T
    rw [q, hp] at hal; cases hal
  have hsize : s.heap.objs.size < h'.objs.size := Heap.lt_size hI2
  refine ⟨s.heap.objs.size, [s.heap.objs.size, a], [s.heap.objs.size], items.size, _, _, fun _ => true, fun i y => ∃ x t, ws[i]? = some x ∧ y = .str (S (x.take (x.length - k))) t, rfl, fun A' hA => Walks.list hA _ a hne items,
    ⟨⟨_, hI2, rfl, rfl⟩, ⟨_, kp1 a _ ha145 hal, rfl, nl, rfl⟩⟩, ?_, W3.lim, ?_, fun href hsub => ⟨?_, ?_⟩, ?_⟩
  · intro b hb
    show b < h'.objs.size
    simp at hb
    rcases hb with rfl | rfl
    · exact hsize
    · exact Nat.lt_trans hlt hsize
  · intro q
    have h0 : cStatics = s.heap.objs.size := by simpa using q
    exact absurd (Nat.le_trans hbig (Nat.le_of_lt hgs)) (by rw [← h0]; decide)
  · intro A' E' i v s₂ m₂ _ _ _ _ _
    exact wpAny_pure ⟨rfl, s₂.heap, s₂.toks, rfl, fun _ _ e => e⟩
  · intro A' E' i v s₂ m₂ hA hP _ hn hmx hkeep
    obtain ⟨x, t, hx, rfl⟩ := hv.get (i := i) (v := v) (by simpa using hP)
    obtain ⟨oc, hoc, hocd⟩ := hcell
    have hcell2 : s₂.heap.IsCell (g.heap.objs.size + 3) (some (.int k tk)) := by
      have h1 := Heap.lt_size hoc
      refine ⟨oc, hkeep _ (List.mem_range.mpr ?_) ?_ oc (hsub _ _ (kp1 _ _ (n145 _ (Nat.le_add_right _ _)) hoc)), hocd⟩
      · exact Nat.lt_trans h1 hsize
      · simpa using Nat.ne_of_lt h1
    refine subK (wpAny_Name (wpAny_loadName_local rfl rfl hn hmx ?_) rfl)
    refine wpAny_evalPart_none (wpAny_evalPart_some (wpAny_UnaryOp (wpAny_Name (wpAny_loadName_free rfl rfl rfl hcell2 ?_ (by rfl)) rfl)))
    refine PyProof.Rows.neg_int ?_
    refine ⟨x, t, none, some (-(k : Int)), rfl, .none, .int _ _, Nat.le_trans (hsz x (List.mem_of_getElem? hx)) (by decide), fun t' h'' tk'' hk'' => ⟨⟨x, t', hx, by rw [sl_cut k x hk]⟩, h'', tk'', rfl, hk''⟩⟩
  · intro a' h₅ tk₅ gs hbare hlt5 hsz5 hk5 Wk hst
    have hn : (passing (fun _ => true) items.size 0).length = items.size := by rw [passing_all]; simp
    have hzi : items.size = ws.length := by rw [← Array.length_toList]; exact hv.len
    refine call_function_entry kind_sorted plain_sorted entry_sorted (args_sorted1 _) ?_
    unfold Builtin.«sorted»
    refine wpAny_bind (m := checkCount "sorted" 1 1 _) (wpAny_pure ?_)
    refine wpAny_bind (wpAny_collect_gen (A := A.in1) Wk.in4_2 (fun i s st => st.1.typeIs) hst (fun b hb => ?_) (by simp) (fun s'' acc hmv hacc => ?_) (by rw [hn, hzi, sizeLine_eq]; omega))
    · show b < h₅.objs.size
      rw [hsz5]
      simp at hb
      rcases hb with rfl | rfl | hb
      · exact Nat.lt_succ_self _
      · exact Nat.lt_succ_of_lt hlt5
      · exact Nat.lt_succ_of_lt (Nat.lt_trans hb hlt5)
    · have hsv : SV acc.toList (cutE k ws) := by
        refine sv_of _ _ (by rw [Array.length_toList, hacc.1, hn, hzi]; simp [cutE]) fun j v hj => ?_
        obtain ⟨i, hi, x, t, hx, rfl⟩ := hacc.2 j v (by rw [← Array.getElem?_toList]; exact hj)
        rw [passing_all] at hi
        have hij : i = j := by
          obtain ⟨hlt', he⟩ := List.getElem?_eq_some_iff.mp hi
          simpa using he.symm
        subst hij
        exact ⟨_, t, by simp [cutE, hx], rfl⟩
      have k5 : ∀ b o, b ≠ 145 → s.heap.get? b = some o → s''.heap.get? b = some o := fun b o hb e => hmv.heap b o (fun q => by
        have hlb := Heap.lt_size e
        simp at q
        rcases q with q | q
        · rw [q] at hlb; exact absurd hlb (Nat.not_lt.mpr (Nat.le_of_lt hsize))
        · rw [q] at hlb; exact absurd hlb (Nat.lt_irrefl _)) (hk5 b o (kp1 b o hb e))
      have X5 : Ext [145] s s'' := by
        refine ⟨fun b o hb e => k5 b o (by simpa using hb) e, hmv.os, fun i y e => ?_, fun hb => ?_, fun b o e hd => ⟨o.slots, k5 b o (h145 b o e hd) e⟩⟩
        · have hlt' := (Array.getElem?_eq_some_iff.mp e).1
          have e1 : (s.gens.push gs)[i]? = some y := by rw [Array.getElem?_push, if_neg (Nat.ne_of_lt hlt')]; exact e
          rcases hmv.gens with q | ⟨q, _⟩
          · rw [q]; exact e1
          · rw [q.2 i (Nat.ne_of_lt hlt')]; exact e1
        · exact hmv.gens.bare (hb.push hbare)
      have T5 : TabOk bb s''.heap := by
        obtain ⟨⟨ob', m1, m2⟩, ps, hp, ht, hmk, hc⟩ := T'
        have kk : ∀ b o, b < g.heap.objs.size ∨ (s.heap.objs.size ≠ b ∧ h'.objs.size ≠ b) → h'.get? b = some o → s''.heap.get? b = some o := fun b o hb e => hmv.heap b o (fun q => by
          simp at q
          rcases q with rfl | rfl <;> rcases hb with hb | hb
          · exact absurd hb (Nat.not_lt.mpr (Nat.le_of_lt (Nat.lt_trans hgs hsize)))
          · exact hb.2 rfl
          · exact absurd hb (Nat.not_lt.mpr (Nat.le_of_lt hgs))
          · exact hb.1 rfl) (hk5 b o e)
        refine ⟨⟨ob', kk 4 _ (.inl (Nat.lt_of_lt_of_le (by decide) hbig)) m1, m2⟩, ps, kk 145 _ (.inl (Nat.lt_of_lt_of_le (by decide) hbig)) hp, ht, ?_, fun cv hcv => ?_⟩
        · obtain ⟨a, o, h1, h2, es, ep, h3⟩ := hmk
          exact ⟨a, o, h1, kk a o (.inr ⟨fun q => (by rw [← q, hI2] at h2; cases h2; cases h3), Nat.ne_of_gt (Heap.lt_size h2)⟩) h2, es, ep, h3⟩
        obtain ⟨⟨c, oc, vs, tq, e1, e2, e3, e4⟩, hge2⟩ := hc cv hcv
        refine ⟨⟨c, oc, vs, tq, e1, kk c oc (.inr ⟨fun q => ?_, Nat.ne_of_gt (Heap.lt_size e2)⟩) e2, e3, e4⟩, hge2⟩
        rw [← q, hI2] at e2; cases e2; cases e3; simp at e4
      have key := sort_vals (prog := pw) (w := w) (A := A.in1) (s := s'') (E := E) (Q := Q) hsv (by simpa [cutE] using hz) (fun c ys ts s3 e h1 h2 h3 X6 hge h4 => fin c ys ts s3 e h1 h2 h3 (X5.trans (X6.mono (by simp))) (T5.step X6) ?_ h4)
      · have e : (do let l ← newList acc.toList; let _ ← holding [l] (call (.builtin "list.sort") [l] []); ret l : Sem Fin) = ((do let l ← newList acc.toList; let _ ← holding [l] (call (.builtin "list.sort") [l]); pure l) >>= fun l => ret l) := by
          rw [LawfulMonad.bind_assoc]
          refine bind_congr fun l => ?_
          rw [LawfulMonad.bind_assoc]
          rfl
        show wpAny _ A.in1 (do let l ← newList acc.toList; let _ ← holding [l] (call (.builtin "list.sort") [l] []); ret l : Sem Fin) _ _ _
        rw [e]
        exact wpAny_bind (wpAny_mono key (fun v s'' h => wpAny_pure ⟨v, rfl, h⟩) fun _ _ h => h)
      · refine Nat.le_trans ?_ hge
        obtain ⟨og, _, _, hog, _⟩ := hst.1
        have h6 := hmv.heap a' og (fun q => by
          simp at q
          rcases q with rfl | rfl
          · exact absurd hlt5 (Nat.lt_irrefl _)
          · exact absurd hlt5 (Nat.not_lt.mpr (Nat.le_of_lt hsize))) hog
        exact Nat.le_of_lt (Nat.lt_trans hsize (Nat.lt_trans hlt5 (Heap.lt_size h6)))

abbrev lamPars : Arguments := { posonlyargs := [], args := [{ arg := "s", annotation := none, pos := { line := 136, col := 107, endLine := 136, endCol := 108 } }], vararg := none, kwonlyargs := [], kw_defaults := [], kwarg := none, defaults := [] }
abbrev lamBody : Expr := .Compare (.Subscript (.Name "s" { line := 136, col := 110, endLine := 136, endCol := 111 }) (.Constant (.int 0) 0 { line := 136, col := 112, endLine := 136, endCol := 113 }) { line := 136, col := 110, endLine := 136, endCol := 114 }) [.Eq]
  [.Subscript (.Name "first" { line := 136, col := 118, endLine := 136, endCol := 123 }) (.Constant (.int 0) 0 { line := 136, col := 124, endLine := 136, endCol := 125 }) { line := 136, col := 118, endLine := 136, endCol := 126 }] { line := 136, col := 110, endLine := 136, endCol := 126 }
abbrev lamScope : Scope := { kind := .function, names := [("s", .local), ("first", .free)], isGenerator := false, isCoroutine := false }
abbrev lamFd (cell : Addr) (pm cdv ct : Value) : FuncData := kla_fn "<lambda>" lamQual lamPars lamBody lamScope [("first", cell)] pm cdv ct
def LamAt (h : Heap) (lam cell : Addr) (first : List Nat) : Prop := ∃ pm cdv ct t, h.get? lam = some { cls := .type "function", data := .func (lamFd cell pm cdv ct) } ∧ h.CodeRec cdv lamQual ∧ h.IsCell cell (some (.str (S first) t))
theorem lam_run {w : World} {A : Around} {s : Shared} (C : Cx A 2 20) (W : Wo (KK w) s.heap) {lam cell : Addr} {c : Nat} {first x : List Nat} {t : Tok} (hL : LamAt s.heap lam cell (c :: first)) (hx : x ≠ []) (hz : x.length ≤ 1000) (hz' : first.length ≤ 1000) :
    codeAny (model pw w) A (.call (.ref lam) ⟨[.str (S x) t], []⟩) (Ret fun r s' => r = .bool (sameHd (c :: first) x) ∧ Ext [] s s') s := by
  obtain ⟨pm, cdv, ct, tc, h1, h2, h3⟩ := hL
  obtain ⟨y, x', rfl⟩ : ∃ y x', x = y :: x' := by cases x with | nil => exact absurd rfl hx | cons y x' => exact ⟨y, x', rfl⟩
  refine kla_callFunE (by have := C.dp; omega) h1 rfl rfl rfl rfl h2 (wpAny_of_eq (a := ([(("s" : Str), Value.str (S (y :: x')) t)] : List (Str × Value))) rfl ?_)
  refine wpAny_newFunctionEnv (by show ∀ x ∈ lamScope.names, x.2 ≠ .cell; decide) (by intro z hz; simp at hz; subst hz; rfl) (fun h₁ hn hs => ?_) rfl
  have kp : ∀ b o, s.heap.get? b = some o → h₁.get? b = some o := fun b o e => hs.extBut b o (Nat.ne_of_lt (Heap.lt_size e)) (Heap.get?_push_of_some _ e)
  have X : Ext [] s { s with heap := h₁, toks := s.toks + 1 } := Ext.heap fun b o _ e => kp b o e
  refine ⟨(W.ext (small _) ok0 X).lim, kla_codeExpr ?_⟩
  have F : Fs [] s s.heap.objs.size _ [] { s with heap := h₁, toks := s.toks + 1 } := ⟨X, ⟨_, hn, fun _ _ e => e⟩, Nat.le_refl _, by simp, by simp, by simp⟩
  have h3' := h3.keeps kp
  replace F := F.as [("s", .str (S (y :: x')) t)] ⟨rfl, trivial⟩
  have hD := ok0
  obtain ⟨oc, hoc, hocd⟩ := h3
  walk_at "go"
  refine itemS F (c := y) (by decide) (by omega) rfl ?_
  clear F; intro t1 s F
  refine Subscript_ (wpAny_Name (wpAny_loadName_free rfl rfl rfl ⟨oc, F.ext.keep _ _ (by simp) hoc, hocd⟩ ?_ (by rfl)) rfl)
  walk_at "go"
  refine itemS F (c := c) (by decide) (by simp; omega) rfl ?_
  clear F; intro t2 s F
  walk_at "go"
  exact ⟨_, rfl, congrArg Value.bool (by rw [Bool.eq_iff_iff]; simp [sameHd]), F.ext⟩
theorem LamAt.ext {D : List Addr} {s s' : Shared} {lam cell : Addr} {first : List Nat} (h : LamAt s.heap lam cell first) (x : Ext D s s') (h1 : lam ∉ D) (h2 : cell ∉ D) (hD : ∀ d ∈ D, ∀ o vs, s.heap.get? d = some o → o.data = .fields vs → ∀ q t, vs[1]? ≠ some (.str q t)) : LamAt s'.heap lam cell first := by
  obtain ⟨pm, cdv, ct, t, a, ⟨c, oc, vs, tq, e1, e2, e3, e4⟩, oc', b1, b2⟩ := h
  exact ⟨pm, cdv, ct, t, x.keep _ _ h1 a, ⟨c, oc, vs, tq, e1, x.keep c oc (fun q => hD c q oc vs e2 e3 _ _ e4) e2, e3, e4⟩, oc', x.keep _ _ h2 b1, b2⟩
theorem LamAt.of {h : Heap} {lam cell : Addr} {first : List Nat} (pm cdv ct : Value) (t : Tok) (a : h.get? lam = some { cls := .type "function", data := .func (lamFd cell pm cdv ct) }) (b : h.CodeRec cdv lamQual) (c : h.IsCell cell (some (.str (S first) t))) : LamAt h lam cell first := ⟨pm, cdv, ct, t, a, b, c⟩
/-- lambda s: s[0] == first[0] -/
theorem lam_make {w : World} {M : Model} {A : Around} {E : Value → Shared → Prop} {Q : Value → Shared → Prop} {g s : Shared} {pm : Value} {first : List Nat} {tw : Tok} (W : Wo (KK w) s.heap) (T : TabOk bb s.heap) (hcell : s.heap.IsCell (g.heap.objs.size + 2) (some (.str (S first) tw)))
    (h : ∀ lam s', s.heap.objs.size ≤ lam → Ext [145] s s' → TabOk bb s'.heap → LamAt s'.heap lam (g.heap.objs.size + 2) first → Q (.ref lam) s') : wpAny M A (eval (.Lambda lamPars lamBody lamScope lamPos) (env13 pm g)) Q E s := by
  obtain ⟨mg, ob, hmg, hb1, hb2, hb3, hb4, hb5⟩ := bi_at W T.1
  obtain ⟨⟨ob', hb, hb'⟩, ps, hp, ht, hmk, hcs⟩ := id T
  have H := codeHd_of W
  obtain ⟨oc, hoc, hocd⟩ := hcell
  have h145 : ∀ b o, s.heap.get? b = some o → (∃ es ep, o.data = .dict es ep) → b ≠ 145 := fun b o e hd q => by
    obtain ⟨es, ep, hd⟩ := hd
    rw [q, hp] at e; cases e; cases hd
  have c145 : g.heap.objs.size + 2 ≠ 145 := fun q => by rw [q, hp] at hoc; cases hoc; cases hocd
  refine kla_eval rfl ?_
  cases hn : codeAmong lamPos ps.toList with
  | some cv =>
    refine kla_makeFunctionHit (clos := [("first", g.heap.objs.size + 2)]) rfl rfl hmg rfl H hp ht hn ⟨4, ob, hb1, by decide, by decide, by decide, hb2, hb3, hb4, hb5⟩ fun ctv h' tk hk hsz => ?_
    have X : Ext [] s { s with heap := h'.push { cls := .type "function", data := .func (kla_fn "<lambda>" lamQual lamPars lamBody lamScope [("first", g.heap.objs.size + 2)] ((mg "__name__").getD .none) cv ctv) }, toks := tk } := Ext.heap fun b o _ e => Heap.get?_push_of_some _ (hk b o e)
    have hq : (env13 pm g).qual ++ ("<lambda>" : Str) = lamQual := by first | rfl | decide
    rw [hq]
    generalize eF : ({ cls := .type "function", data := .func (kla_fn "<lambda>" lamQual lamPars lamBody lamScope [("first", g.heap.objs.size + 2)] ((mg "__name__").getD .none) cv ctv) } : Obj) = fo at X ⊢
    have e0 : (h'.push fo).get? h'.objs.size = some fo := Heap.get?_push_size _ (by rw [← eF]; rfl)
    have hrec : (h'.push fo).CodeRec cv lamQual := by
      obtain ⟨⟨c, oc', vs, tq, e1, e2, e3, e4⟩, _⟩ := hcs cv hn
      exact ⟨c, oc', vs, tq, e1, X.keep _ _ (by simp) e2, e3, e4⟩
    have hc : (h'.push fo).IsCell (g.heap.objs.size + 2) (some (.str (S first) tw)) := ⟨oc, X.keep _ _ (by simp) hoc, hocd⟩
    have hlam : LamAt (h'.push fo) h'.objs.size (g.heap.objs.size + 2) first := LamAt.of _ cv ctv tw (by rw [e0, ← eF]) hrec hc
    exact h _ _ hsz (X.mono (by simp)) (T.step X) hlam
  | none =>
    have hq : (env13 pm g).qual ++ ("<lambda>" : Str) = lamQual := by first | rfl | decide
    refine kla_makeFunction (clos := [("first", g.heap.objs.size + 2)]) rfl rfl hmg rfl H hp ht hn (by decide) ⟨4, ob, hb1, by decide, by decide, by decide, hb2, hb3, hb4, hb5⟩ fun c' ctv h' tk hx hge hlt hrec htb => ?_
    rw [hq] at hrec ⊢
    have eF' : kla_obj "<lambda>" lamQual lamPars lamBody lamScope [("first", g.heap.objs.size + 2)] ((mg "__name__").getD .none) c' ctv = ({ cls := .type "function", data := .func (lamFd (g.heap.objs.size + 2) ((mg "__name__").getD .none) (.ref c') ctv) } : Obj) := rfl
    have hfr : (kla_obj "<lambda>" lamQual lamPars lamBody lamScope [("first", g.heap.objs.size + 2)] ((mg "__name__").getD .none) c' ctv).isFreed = false := rfl
    generalize eG : kla_obj "<lambda>" lamQual lamPars lamBody lamScope [("first", g.heap.objs.size + 2)] ((mg "__name__").getD .none) c' ctv = fo at eF' hfr ⊢
    have kp : ∀ b o, b ≠ 145 → s.heap.get? b = some o → (h'.push fo).get? b = some o := fun b o hb e => Heap.get?_push_of_some _ (hx b o hb e)
    have hrec' : (h'.push fo).CodeRec (.ref c') lamQual := by
      obtain ⟨c, oc', vs, tq, e1, e2, e3, e4⟩ := hrec
      exact ⟨c, oc', vs, tq, e1, Heap.get?_push_of_some _ e2, e3, e4⟩
    have e0 : (h'.push fo).get? h'.objs.size = some fo := Heap.get?_push_size _ hfr
    have hc : (h'.push fo).IsCell (g.heap.objs.size + 2) (some (.str (S first) tw)) := ⟨oc, kp _ _ c145 hoc, hocd⟩
    have hlam : LamAt (h'.push fo) h'.objs.size (g.heap.objs.size + 2) first := LamAt.of _ (.ref c') ctv tw (by rw [e0, eF']) hrec' hc
    have X : Ext [145] s { s with heap := h'.push fo, toks := tk } := ⟨fun b o hb e => kp b o (by simpa using hb) e, rfl, fun _ _ e => e, id, fun b o e hd => ⟨o.slots, kp b o (h145 b o e hd) e⟩⟩
    have T' : TabOk bb (h'.push fo) := by
      refine ⟨⟨ob', kp _ _ (by decide) hb, hb'⟩, _, Heap.get?_push_of_some _ htb, ?_, hmk.keep fun b o e hd => ⟨o.slots, kp b o (h145 b o e hd) e⟩, fun cv hcv => ?_⟩
      · simp only [Array.toList_append]; exact TriplesOk_snoc _ _ _ _ ht
      · simp only [Array.toList_append] at hcv
        have e := codeAmong_snoc (pos := lamPos) (c := .ref c') _ ht hn
        have e2 : codeAmong lamPos (ps.toList ++ [rawInt lamPos.line, rawInt lamPos.col, Value.ref c']) = some cv := hcv
        rw [e] at e2
        cases e2
        refine ⟨hrec', c', rfl, ?_⟩
        obtain ⟨aM, oM, hM1, hM2, _⟩ := hmk
        exact Nat.le_trans hM1 (Nat.le_trans (Nat.le_of_lt (Heap.lt_size hM2)) hge)
    exact h _ _ (Nat.le_trans hge (Nat.le_of_lt hlt)) X T' hlam

/-- the text of a value -/
abbrev okText (v : Value) : Prop := ∃ x t, v = .str (S x) t ∧ x ≠ [] ∧ x.length ≤ 1000
theorem LamAt.fn {h : Heap} {lam cell : Addr} {first : List Nat} (a : LamAt h lam cell first) : FunAt h lam := by
  obtain ⟨pm, cdv, ct, t, a, _⟩ := a
  exact ⟨_, _, _, _, a⟩
/-- the lambda is a key function -/
theorem lam_key {w : World} {D : List Addr} {g : Shared} {lam cell : Addr} {c : Nat} {first : List Nat} {key : Value → Bool} (hk : ∀ x t, key (.str (S x) t) = sameHd (c :: first) x) (hL : LamAt g.heap lam cell (c :: first)) (hz : first.length ≤ 1000)
    (h1 : lam ∉ D) (h2 : cell ∉ D) (hD : ∀ d ∈ D, ∀ o vs, g.heap.get? d = some o → o.data = .fields vs → ∀ q t, vs[1]? ≠ some (.str q t)) : Key w D g lam key okText := by
  refine ⟨fun s' y => (hL.ext y h1 h2 hD).fn, fun A' s' v hv C y W => ?_⟩
  obtain ⟨x, t, rfl, hx, hxz⟩ := hv
  rw [hk]
  exact lam_run C W (hL.ext y h1 h2 hD) hx hxz hz
/-- what the lambda answers on any value -/
def keyOf (first : List Nat) : Value → Bool
  | .str x _ => sameHd first x.cps.toList
  | _ => false
@[simp] theorem keyOf_str (first x : List Nat) (t : Tok) : keyOf first (.str (S x) t) = sameHd first x := rfl
theorem lam_keyOf {w : World} {D : List Addr} {g : Shared} {lam cell : Addr} {c : Nat} {first : List Nat} (hL : LamAt g.heap lam cell (c :: first)) (hz : first.length ≤ 1000)
    (h1 : lam ∉ D) (h2 : cell ∉ D) (hD : ∀ d ∈ D, ∀ o vs, g.heap.get? d = some o → o.data = .fields vs → ∀ q t, vs[1]? ≠ some (.str q t)) : Key w D g lam (keyOf (c :: first)) okText :=
  lam_key (fun _ _ => rfl) hL hz h1 h2 hD
/-- the values of texts are ok -/
theorem okText_of {x : List Nat} {t : Tok} (h : x ≠ []) (hz : x.length ≤ 1000) : okText (.str (S x) t) := ⟨x, t, rfl, h, hz⟩

abbrev gScope : Scope := { kind := .function, names := [(".0", .local), ("group", .local), ("regex_opt_inner", .globalImplicit), ("list", .globalImplicit)], isGenerator := true, isCoroutine := false }
abbrev gEnv (pm : Value) (g : Shared) (C : Addr) (code : Value) : Env := genEnv gScope [] C code builtinsNs (env13 pm g)
/-- what a turn must keep beside the ledger -/
structure GT (bb : Nat) (lam cell : Addr) (first : List Nat) (dx : Addr) (gi : Nat) (s : Shared) : Prop where
  tab : TabOk bb s.heap
  lam : LamAt s.heap lam cell first
  dx : DicE s.heap dx
  gl : gi < s.gens.size
theorem GT.tk {lam cell : Addr} {first : List Nat} {dx : Addr} {gi : Nat} {s : Shared} (G : GT bb lam cell first dx gi s) (n : Nat) : GT bb lam cell first dx gi { s with toks := n } := ⟨G.tab, G.lam, G.dx, G.gl⟩
theorem GT.setGen {lam cell : Addr} {first : List Nat} {dx : Addr} {gi : Nat} {s : Shared} (G : GT bb lam cell first dx gi s) (i : Nat) (x : GenState) : GT bb lam cell first dx gi (s.setGen i x) := ⟨G.tab, G.lam, G.dx, by simpa [Shared.setGen] using G.gl⟩
/-- no code's record -/
def NoCode (h : Heap) (D : List Addr) : Prop := ∀ d ∈ D, ∀ o vs, h.get? d = some o → o.data = .fields vs → ∀ q t, vs[1]? ≠ some (.str q t)
theorem NoCode.app {h : Heap} {D D' : List Addr} (a : NoCode h D) (b : NoCode h D') : NoCode h (D ++ D') := fun d hd => (List.mem_append.mp hd).elim (a d) (b d)
theorem NoCode.cons {h : Heap} {d : Addr} {D : List Addr} {o : Obj} (e : h.get? d = some o) (ho : ∀ vs, o.data = .fields vs → ∀ q t, vs[1]? ≠ some (.str q t)) (b : NoCode h D) : NoCode h (d :: D) := fun x hx => by
  rcases List.mem_cons.mp hx with rfl | hx
  · intro o' vs e' hd; rw [e] at e'; cases e'; exact ho vs hd
  · exact b x hx
theorem NoCode.nil {h : Heap} : NoCode h [] := fun _ hx => nomatch hx
theorem NoCode.frs {A : Around} {h : Heap} (U : Up kmax A h) : NoCode h (frs A) := fun d hd o vs e hv => by
  obtain ⟨_, m, o', es, ep, ho, hd', _⟩ := U.mem hd
  rw [e] at ho; cases ho; rw [hv] at hd'; cases hd'
theorem NoCode.tab {h : Heap} (T : TabOk bb h) : NoCode h [145] := fun d hd o vs e hv q t h1 => by
  obtain ⟨_, ps, hp, ht, _, _⟩ := T
  rw [List.mem_singleton.mp hd, hp] at e; cases e; cases hv
  have h1 : vs.toList[1]? = some (.str q t) := by simpa using h1
  generalize vs.toList = l at ht h1
  match l, ht, h1 with
  | [], _, h1 => simp at h1
  | [_], _, h1 => simp at h1
  | a :: b :: r, ht, h1 =>
    have hb : b = .str q t := by simpa using h1
    subst hb
    cases a <;> cases r <;> exact ht.elim
theorem GT.ext {lam cell : Addr} {first : List Nat} {dx : Addr} {gi : Nat} {s s' : Shared} {D : List Addr} (G : GT bb lam cell first dx gi s) (x : Ext D s s') (T : TabOk bb s'.heap) (h1 : lam ∉ D) (h2 : cell ∉ D) (hD : NoCode s.heap D) : GT bb lam cell first dx gi s' :=
  ⟨T, G.lam.ext x h1 h2 hD, G.dx.soft x, gens_lt x G.gl⟩
/-- the objects that a turn has in hand -/
abbrev gLed (x it gA lam B : Addr) (ox oi og ol ob : Obj) : List (Addr × Sh) := [(x, .raw ox), (it, .raw oi), (gA, .raw og), (lam, .raw ol), (B, .raw ob)]
/-- list(group[1]) and the call -/
theorem turn_elt {w : World} {n : Nat} (ih : InnerAt bb w n) {A₁ A₂ : Around} {E : Value → Shared → Prop} {Q : Value → Shared → Prop} {g sB s : Shared} {pm code : Value} {C T y dy x it dx gA lam B cell a gi : Addr} {og ol ob : Obj} {m : Str → Option Value} {p1 p2 p3 p4 p5 p6 p7 p8 : Pos}
    {b : Bool} {cv se tk : Value} {nn : Int} {tn : Tok} {items : Array Value} {key : Value → Bool} {first : List Nat} {i j : Nat} {ws : List (List Nat)}
    (C₂ : CxN A₂ n) (U₂ : Up kmax A₂ s.heap) (hfr : frs A₂ = C :: frs A₁) (U₁ : Up kmax A₁ sB.heap) (W : Wo (KK w) sB.heap) (hm : m "group" = some (.ref T))
    (F : Fs ([145] ++ frs A₁) sB C m ((T, .raw (seqObj "tuple" #[.bool b, .ref y] 0)) :: (y, .raw (slO 138 dy (grS (.int nn tn) (.ref x) (.bool b)))) :: gLed x it gA lam B (slO 93 dx (gbS (.int nn tn) (.bool b) cv (.bool true) (.bool true) (.bool true) (.ref it) (.ref lam) se tk)) (liO a i) og ol ob) s)
    (G : GT bb lam cell first dx gi s) (hdy : DicE s.heap dy) (hl : s.heap.PlainList a items) (hln : a ≠ it) (hlx : a ≠ x) (hcv : handedIn cv = true)
    (hlam : ∃ d, ol.data = .func d) (K : Key w ([x, it] ++ frs A₂) s lam key okText) (hks : kmax ≤ sB.heap.objs.size) (hnew : ∀ d ∈ [x, it, gA, lam, B], sB.heap.objs.size ≤ d)
    (hitems : ∀ m < j, ∃ v, items[i + m]? = some v ∧ okText v ∧ key v = b ∧ handedIn v = true) (htail : (∃ v, items[i + j]? = some v ∧ okText v ∧ key v ≠ b) ∨ items[i + j]? = none) (hz : j ≤ 10000)
    (hv : SV (cv :: (items.toList.drop i).take j) ws) (Gd : Good ws) (hms : mu ws ≤ n)
    (hQ : ∀ t s' ox oi, ((∃ v, items[i + j]? = some v ∧ ox = slO 93 dx (gbS (.int nn tn) (.bool (key v)) v (.bool true) (.bool true) (.bool true) (.ref it) (.ref lam) se tk) ∧ oi = liO a (i + j + 1)) ∨
        (items[i + j]? = none ∧ ox = slO 93 dx (gbS (.int nn tn) .none .none (.bool false) (.bool false) (.bool true) (.ref it) (.ref lam) se tk) ∧ oi = liE (i + j))) →
      Fs ([145] ++ frs A₁) sB C m (gLed x it gA lam B ox oi og ol ob) s' → GT bb lam cell first dx gi s' → Q (.str (S (rx n ws [])) t) s') :
    wpAny (model pw w) A₂ (eval (.Call (.Name "regex_opt_inner" p1) [.Call (.Name "list" p2) [.Subscript (.Name "group" p3) (.Constant (.int 1) 0 p4) p5] [] p6, .Constant (.str "") 0 p7] [] p8) (gEnv pm g C code)) Q E s := by
  have hD : okD tabP kmax ([145] ++ frs A₁) := okDf (fun b hb => .inl (by simpa using hb)) U₁
  refine Call_ ?_
  refine ldG F W (small _) hD rfl ?_
  refine callW (K := KK w) (by kernel_rfl) (cons_args (Call_ ?_))
  walk_at "nm"
  refine PyProof.Rows.callWith_type1 (cons_args (Subscript_ (ld F hm ?_)))
  refine wpAny_Constant_int ?_
  replace F := F.tk (s.toks + 1)
  replace G := G.tk (s.toks + 1)
  have X0 : Ext [] s { s with toks := s.toks + 1 } := Ext.heap (s := s) fun b o _ e => e
  replace K := K.on (X0.mono (by simp))
  have U₂' := U₂.ext X0
  have hl' : ({ s with toks := s.toks + 1 } : Shared).heap.PlainList a items := hl
  have hdy' : DicE ({ s with toks := s.toks + 1 } : Shared).heap dy := hdy
  clear U₂ hl hdy X0
  generalize ({ s with toks := s.toks + 1 } : Shared) = s at F G K U₂' hl' hdy' ⊢
  refine PyProof.Rows.item_tupleT (l := [.bool b, .ref y]) (j := 1) (x := .ref y) ⟨_, F.get (x := .raw _) (.head _), rfl, 0, rfl⟩ (by decide) (by decide) rfl rfl ?_
  refine nil_args ?_
  have Ws := W.ext (small _) hD F.ext
  have hx := F.get (x := .raw _) (.tail _ (.tail _ (.head _)))
  have hy := F.get (x := .raw _) (.tail _ (.head _))
  have hit := F.get (x := .raw _) (.tail _ (.tail _ (.tail _ (.head _))))
  have hg := F.get (x := .raw _) (.tail _ (.tail _ (.tail _ (.tail _ (.head _)))))
  have hol := F.get (x := .raw _) (.tail _ (.tail _ (.tail _ (.tail _ (.tail _ (.head _))))))
  have hob := F.get (x := .raw _) (.tail _ (.tail _ (.tail _ (.tail _ (.tail _ (.tail _ (.head _)))))))
  have hT := F.get (x := .raw _) (.head _)
  have hkx : kmax ≤ x := Nat.le_trans hks (hnew x (by simp))
  have hki : kmax ≤ it := Nat.le_trans hks (hnew it (by simp))
  have nd := F.nd
  simp only [gLed, List.map_cons, List.map_nil, List.nodup_cons, List.mem_cons, not_or] at nd
  obtain ⟨_, ⟨_, n1, n2, _⟩, ⟨n3, n4, _⟩, ⟨_, n5, n6, n6b, _⟩, ⟨n7, n8, n8b, _⟩, _⟩ := nd
  have keepN : ∀ p ∈ [T, y, x, it, gA, lam, B], p ≠ x → p ≠ it → p ∉ [x, it] ++ frs A₂ := fun p hp h1 h2 q => by
    obtain ⟨r, hr, rfl⟩ := List.mem_map.mp (show p ∈ ((T, Sh.raw (seqObj "tuple" #[.bool b, .ref y] 0)) :: (y, .raw (slO 138 dy (grS (.int nn tn) (.ref x) (.bool b)))) :: gLed x it gA lam B (slO 93 dx (gbS (.int nn tn) (.bool b) cv (.bool true) (.bool true) (.bool true) (.ref it) (.ref lam) se tk)) (liO a i) og ol ob).map (·.1) from hp)
    rw [hfr] at q
    simp only [List.cons_append, List.nil_append, List.mem_cons] at q
    rcases q with q | q | q | q
    · exact h1 q
    · exact h2 q
    · exact F.ne hr q
    · exact F.noFrame U₁ hr q
  have hcell : ∀ (s : Shared) (A : Around) ox oi, LamAt s.heap lam cell first → Up kmax A s.heap → s.heap.get? x = some ox → s.heap.get? it = some oi → (∀ v, ox.data ≠ .cell v) → (∀ v, oi.data ≠ .cell v) → cell ∉ [x, it] ++ frs A := fun s A ox oi h U h1 h2 h3 h4 q => by
    obtain ⟨_, _, _, _, _, _, oc, hc, hcd⟩ := h
    simp only [List.cons_append, List.nil_append, List.mem_cons] at q
    rcases q with rfl | rfl | q
    · rw [h1] at hc; cases hc; exact h3 _ hcd
    · rw [h2] at hc; cases hc; exact h4 _ hcd
    · exact U.notD hc (fun _ _ q => by rw [hcd] at q; cases q) q
  refine list_group (C₂.mono (by omega) (by omega)) Ws (F.frIn W (small _) hD) U₂' hx hit G.dx hy hdy' hl' hln hlx hcv K hkx hki hitems htail hz fun S' s' c acc hS hacc hSs hend => ?_
  obtain ⟨X, hend⟩ := hend
  obtain ⟨ox', oi', halt, hx', hit'⟩ : ∃ ox oi, ((∃ v, items[i + j]? = some v ∧ ox = slO 93 dx (gbS (.int nn tn) (.bool (key v)) v (.bool true) (.bool true) (.bool true) (.ref it) (.ref lam) se tk) ∧ oi = liO a (i + j + 1)) ∨
        (items[i + j]? = none ∧ ox = slO 93 dx (gbS (.int nn tn) .none .none (.bool false) (.bool false) (.bool true) (.ref it) (.ref lam) se tk) ∧ oi = liE (i + j))) ∧ s'.heap.get? x = some ox ∧ s'.heap.get? it = some oi := by
    rcases hend with ⟨v, h1, h2, h3⟩ | ⟨h1, h2, h3⟩
    · exact ⟨_, _, .inl ⟨v, h1, rfl, rfl⟩, h2, h3⟩
    · exact ⟨_, _, .inr ⟨h1, rfl, rfl⟩, h2, h3⟩
  have hkD : ∀ d ∈ [x, it] ++ frs A₂, kmax ≤ d := fun d hd => by
    rcases List.mem_append.mp hd with h | h
    · simp at h; rcases h with rfl | rfl <;> assumption
    · exact (U₂'.mem h).1
  have hND : NoCode s.heap ([x, it] ++ frs A₂) := (NoCode.cons hx (fun _ q => nomatch q) (NoCode.cons hit (fun vs q => by cases q; simp) .nil)).app (NoCode.frs U₂')
  have G' := G.ext X (G.tab.ext X hkD hND) (keepN lam (by simp) (Ne.symm n6) (Ne.symm n8)) (hcell s A₂ _ _ G.lam U₂' hx hit (fun _ q => nomatch q) (fun _ q => nomatch q)) hND
  have F' := F.re (D' := [x, it] ++ frs A₂) ((T, .raw (seqObj "tuple" #[.bool b, .ref y] 0)) :: (y, .raw (slO 138 dy (grS (.int nn tn) (.ref x) (.bool b)))) :: gLed x it gA lam B ox' oi' og ol ob) rfl X (one_of (k := kmax) hkD (by decide)) (fun d hd => by
      rw [hfr] at hd
      simp only [List.cons_append, List.nil_append, List.mem_cons] at hd
      rcases hd with rfl | rfl | rfl | hd
      · exact .inr (by simp)
      · exact .inr (by simp)
      · exact .inl (.inr F.newL)
      · exact .inl (.inl (List.mem_append_right _ hd)))
    ⟨X.keep T _ (keepN T (by simp) n1 n2) hT, X.keep y _ (keepN y (by simp) n3 n4) hy, hx', hit', X.keep gA _ (keepN gA (by simp) (Ne.symm n5) (Ne.symm n7)) hg, X.keep lam _ (keepN lam (by simp) (Ne.symm n6) (Ne.symm n8)) hol, X.keep B _ (keepN B (by simp) (Ne.symm n6b) (Ne.symm n8b)) hob, trivial⟩
  replace F' := F'.drop ((List.sublist_cons_self _ _).trans (List.sublist_cons_self _ _))
  have U' := U₂'.ext X
  have hzS : SV acc.toList ws := by rw [hacc]; exact hv
  clear hend G F X hx hit hg hol hob hT hy K U₂' hl' hdy' Ws hND
  refine cons_args (wpAny_Constant_str ?_)
  replace F' := F'.tk (s'.toks + 1)
  replace G' := G'.tk (s'.toks + 1)
  replace U' := U'.ext (Ext.heap (s := s') (h' := s'.heap) (tk := s'.toks + 1) fun b o _ e => e)
  replace hSs : ({ s' with toks := s'.toks + 1 } : Shared).heap.get? S' = some (lsO acc c) := hSs
  generalize s'.toks = tt at *
  generalize ({ s' with toks := tt + 1 } : Shared) = s2 at F' G' U' hSs ⊢
  have W2 := W.ext (small _) hD F'.ext
  refine nil_args ⟨W2.X, ?_⟩
  rw [show (Str.ofString "") = S [] from (S_of _).trans (congrArg S lit_nil)]
  refine use (ih A₂ s2 S' acc ws [] _ C₂ W2 U' G'.tab ⟨c, hSs⟩ hzS Gd hms (.inl rfl)) fun v s3 hp => ?_
  obtain ⟨⟨t', rfl⟩, T3, X3⟩ := hp
  have hx := F'.get (x := .raw _) (.head _)
  have hit := F'.get (x := .raw _) (.tail _ (.head _))
  have hlm := F'.get (x := .raw _) (.tail _ (.tail _ (.tail _ (.head _))))
  have hox : (∀ v, ox'.data ≠ .cell v) ∧ ∀ v, oi'.data ≠ .cell v := by
    rcases halt with ⟨v, _, rfl, rfl⟩ | ⟨_, rfl, rfl⟩ <;> exact ⟨(fun _ q => nomatch q), fun _ q => nomatch q⟩
  have n145 : ∀ d ∈ [x, it, gA, lam, B], d ≠ 145 := fun d hd q => by
    have h1 := Nat.le_trans hks (hnew d hd)
    rw [q] at h1
    exact absurd h1 (by decide)
  have h4 : ∀ p ∈ gLed x it gA lam B ox' oi' og ol ob, p.1 ∉ [145] ++ frs A₂ := fun p hp q => by
    rw [hfr] at q
    simp only [List.cons_append, List.nil_append, List.mem_cons] at q
    rcases q with q | q | q
    · exact n145 p.1 (List.mem_map_of_mem (f := (·.1)) hp) q
    · exact F'.ne hp q
    · exact F'.noFrame U₁ hp q
  have hND : NoCode s2.heap ([145] ++ frs A₂) := (NoCode.tab G'.tab).app (NoCode.frs U')
  have hc := hcell s2 A₂ ox' oi' G'.lam U' hx hit hox.1 hox.2
  have hc145 : cell ≠ 145 := fun q => by
    obtain ⟨_, _, _, _, _, _, oc, hc, hcd⟩ := G'.lam
    obtain ⟨_, ps, hp, _⟩ := G'.tab
    rw [q, hp] at hc; cases hc; cases hcd
  refine hQ t' s3 ox' oi' halt (F'.call X3 (fun h1 => ?_) (fun d hd => ?_) h4) (G'.ext X3 T3 (h4 (lam, .raw ol) (.tail _ (.tail _ (.tail _ (.head _))))) (fun q => ?_) hND)
  · rcases List.mem_append.mp h1 with h | h
    · exact absurd h (by decide)
    · exact absurd (U'.mem h).1 (by decide)
  · rw [hfr] at hd
    simp only [List.cons_append, List.nil_append, List.mem_cons] at hd
    rcases hd with rfl | rfl | hd
    · exact .inl (by simp)
    · exact .inr F'.newL
    · exact .inl (List.mem_append_right _ hd)
  · rcases List.mem_append.mp q with h | h
    · exact hc145 (List.mem_singleton.mp h)
    · exact hc (List.mem_append_right _ h)

theorem Fs.notDicE {D : List Addr} {g s : Shared} {L d : Addr} {m : Str → Option Value} {news : List (Addr × Sh)} {y : Str} {v : Value} (F : Fs D g L m news s) (hm : m y = some v) (hd : DicE s.heap d) : d ≠ L := fun q => by
  obtain ⟨m₀, ⟨o, es, ep, h1, h2, h3, h4⟩, k⟩ := F.loc
  obtain ⟨o', ep', e1, e2⟩ := hd
  rw [q, h1] at e1; cases e1
  rw [h2] at e2; cases e2
  have h := h4 y
  rw [k y v hm] at h
  cases h
theorem stX {M : Model} {A : Around} {E : Value → Shared → Prop} {D : List Addr} {g s : Shared} {L : Addr} {m : Str → Option Value} {news : List (Addr × Sh)} {env : Env} {x : Str} {v : Value} {Q : Unit → Shared → Prop} (F : Fs D g L m news s)
    (h : ∀ s', Fs D g L (fun y => if y = x then some v else m y) news s' → Heap.SameBut L s.heap s'.heap → s'.gens = s.gens → Q () s') (hL : env.locals = L := by rfl) (hk : env.scope.kind = .function := by rfl)
    (hl : env.kindOf x = some .local := by rfl) : wpAny M A (storeName env x v) Q E s := by
  subst hL
  obtain ⟨m₀, n, k⟩ := F.loc
  refine wpAny_storeName_local hl n (fun h' hn hs => h { s with heap := h', toks := s.toks + 1 } ((F.setL hn hs _).weak fun y u e => ?_) hs rfl) (by rw [hk]; rfl)
  by_cases q : y = x
  · rw [if_pos q] at e ⊢; exact e
  · rw [if_neg q] at e ⊢; exact k y u e
theorem GT.local {lam cell : Addr} {first : List Nat} {dx L : Addr} {gi : Nat} {s s' : Shared} (G : GT bb lam cell first dx gi s) (hs : Heap.SameBut L s.heap s'.heap) (hg : s'.gens = s.gens) {m m' : Str → Option Value} (hn : s.heap.Ns L m) (hn' : s'.heap.Ns L m') (hd : dx ≠ L) : GT bb lam cell first dx gi s' := by
  obtain ⟨⟨⟨ob, hb, hb'⟩, ps, hp, ht, hmk, hc⟩, ⟨pm, cdv, ct, t, a, ⟨c, oc, vs, tq, e1, e2, e3, e4⟩, oc', b1, b2⟩, ⟨od, ep, d1, d2⟩, gl⟩ := G
  obtain ⟨oL, es, ep', hL, hLd, _⟩ := hn
  have kp : ∀ b o, s.heap.get? b = some o → (∀ es ep, o.data ≠ .dict es ep) → s'.heap.get? b = some o := fun b o e hd => (hs.2 b (fun q => by rw [q, hL] at e; cases e; exact hd _ _ hLd)).trans e
  refine ⟨⟨⟨ob, kp 4 ob hb (fun _ _ q => by rw [hb'.2.2] at q; cases q), hb'⟩, ps, kp 145 _ hp (fun _ _ q => nomatch q), ht, hmk.same hs hn', fun cv hcv => ?_⟩, ⟨pm, cdv, ct, t, kp lam _ a (fun _ _ q => nomatch q), ⟨c, oc, vs, tq, e1, kp c oc e2 (fun _ _ q => by rw [e3] at q; cases q), e3, e4⟩, oc', kp cell oc' b1 (fun _ _ q => by rw [b2] at q; cases q), b2⟩, ⟨od, ep, (hs.2 dx hd).trans d1, d2⟩, by rw [hg]; exact gl⟩
  obtain ⟨⟨c, oc, vs, tq, e1, e2, e3, e4⟩, hge⟩ := hc cv hcv
  exact ⟨⟨c, oc, vs, tq, e1, kp c oc e2 (fun _ _ q => by rw [e3] at q; cases q), e3, e4⟩, hge⟩
abbrev gElt (p1 p2 p3 p4 p5 p6 p7 p8 : Pos) : Expr := .Call (.Name "regex_opt_inner" p1) [.Call (.Name "list" p2) [.Subscript (.Name "group" p3) (.Constant (.int 1) 0 p4) p5] [] p6, .Constant (.str "") 0 p7] [] p8
theorem turn_seg {w : World} {n : Nat} (ih : InnerAt bb w n) {A₁ : Around} {R : GenEnd} {Z : Nat → Shared → Value → Shared → Prop} {Z' : Nat → Shared → Shared → Prop} {mm : Nat} {g sB s s₀ : Shared} {pm code : Value} {C x it dx gA lam B cell a gi : Addr} {oi og ol ob : Obj} {sl : Array (Option Value)} {m : Str → Option Value} {p1 p2 p3 p4 p5 p6 p7 p8 px pos : Pos} {iter : Expr}
    {b : Bool} {cv : Value} {nn : Int} {items : Array Value} {c : Nat} {first : List Nat} {i j : Nat} {ws : List (List Nat)}
    (C₁ : Cx A₁ (6 * n + 21) (40 * n + 306)) (U₁ : Up kmax A₁ sB.heap) (W : Wo (KK w) sB.heap) (hm0 : m ".0" = some (.ref x)) (hz1 : first.length ≤ 1000)
    (F : Fs ([145] ++ frs A₁) sB C m (gLed x it gA lam B (slO 93 dx sl) oi og ol ob) s) (G : GT bb lam cell (c :: first) dx gi s) (hlB : sB.heap.PlainList a items) (haD : a ∉ [145] ++ frs A₁) (hcv : handedIn cv = true)
    (hlam : ∃ d, ol.data = .func d) (hoi : ∃ v k, oi.data = .fields #[v, .int k 0]) (hks : kmax ≤ sB.heap.objs.size) (hnew : ∀ d ∈ [x, it, gA, lam, B], sB.heap.objs.size ≤ d)
    (hnext : ∀ A₂, Cx A₂ 6 90 → codeAny (model pw w) A₂ (.call (.ref 89) ⟨[.ref x], []⟩) (Ret (NextPost s [x, it] x dx it a lam nn (.bool b) cv i)) s)
    (hitems : ∀ m < j, ∃ v, items[i + m]? = some v ∧ okText v ∧ keyOf (c :: first) v = b ∧ handedIn v = true) (htail : (∃ v, items[i + j]? = some v ∧ okText v ∧ keyOf (c :: first) v ≠ b) ∨ items[i + j]? = none) (hz : j ≤ 10000)
    (hv : SV (cv :: (items.toList.drop i).take j) ws) (Gd : Good ws) (hms : mu ws ≤ n)
    (hQ : ∀ t s' ox oi m' t', ((∃ v, items[i + j]? = some v ∧ ox = slO 93 dx (gbS (.int (nn + 1) t') (.bool (keyOf (c :: first) v)) v (.bool true) (.bool true) (.bool true) (.ref it) (.ref lam) (.int (nn + 1) t') (.bool b)) ∧ oi = liO a (i + j + 1)) ∨
        (items[i + j]? = none ∧ ox = slO 93 dx (gbS (.int (nn + 1) t') .none .none (.bool false) (.bool false) (.bool true) (.ref it) (.ref lam) (.int (nn + 1) t') (.bool b)) ∧ oi = liE (i + j))) →
      Fs ([145] ++ frs A₁) sB C m' (gLed x it gA lam B ox oi og ol ob) s' → m' ".0" = some (.ref x) → GT bb lam cell (c :: first) dx gi s' → Z mm s₀ (.str (S (rx n ws [])) t) s' ∧
        ∀ s'', Z' mm s' s'' → Seg (model pw w) A₁.in1.in1.in1 R (Prot Z Z') mm s'' (genLoop (gElt p1 p2 p3 p4 p5 p6 p7 p8) iter "group" px gScope pos x (gEnv pm g C code)) ((model pw w).den (genLoop (gElt p1 p2 p3 p4 p5 p6 p7 p8) iter "group" px gScope pos x (gEnv pm g C code))) [] s'') :
    Seg (model pw w) A₁.in1.in1.in1 R (Prot Z Z') (mm + 1) s₀ (genLoop (gElt p1 p2 p3 p4 p5 p6 p7 p8) iter "group" px gScope pos x (gEnv pm g C code)) ((model pw w).den (genLoop (gElt p1 p2 p3 p4 p5 p6 p7 p8) iter "group" px gScope pos x (gEnv pm g C code))) [] s := by
  have hD : okD tabP kmax ([145] ++ frs A₁) := okDf (fun b hb => .inl (by simpa using hb)) U₁
  have hkx : kmax ≤ x := Nat.le_trans hks (hnew x (by simp))
  have hki : kmax ≤ it := Nat.le_trans hks (hnew it (by simp))
  have hkC : kmax ≤ C := Nat.le_trans hks F.newL
  have C₂ : CxN (A₁.in1.in1.in1.over (genLoop (gElt p1 p2 p3 p4 p5 p6 p7 p8) iter "group" px gScope pos x (gEnv pm g C code)) []) n :=
    Cx.loop (d := 6 * n + 20) (u := 40 * n + 300) (Cx.in1 (u := 40 * n + 303) (Cx.in1 (u := 40 * n + 304) (Cx.in1 (u := 40 * n + 305) C₁)))
  have hfr : frs (A₁.in1.in1.in1.over (genLoop (gElt p1 p2 p3 p4 p5 p6 p7 p8) iter "group" px gScope pos x (gEnv pm g C code)) []) = C :: frs A₁ := by
    obtain ⟨l, hl, _⟩ := id U₁
    exact frs_loop (A := A₁.in1.in1.in1) (l := l) hl rfl
  have hUp : ∀ {s : Shared} {m : Str → Option Value} {news : List (Addr × Sh)}, Fs ([145] ++ frs A₁) sB C m news s → Up kmax (A₁.in1.in1.in1.over (genLoop (gElt p1 p2 p3 p4 p5 p6 p7 p8) iter "group" px gScope pos x (gEnv pm g C code)) []) s.heap := fun F =>
    Up.loop (A := A₁.in1.in1.in1) U₁ F rfl (by show ScopeKind.function ≠ _; decide) hkC
  refine seg_turn rfl ?_
  generalize A₁.in1.in1.in1.over (genLoop (gElt p1 p2 p3 p4 p5 p6 p7 p8) iter "group" px gScope pos x (gEnv pm g C code)) [] = A₂ at C₂ hfr hUp ⊢
  have Ws := W.ext (small _) hD F.ext
  have hx := F.get (x := .raw _) (.head _)
  have hit := F.get (x := .raw _) (.tail _ (.head _))
  have hg := F.get (x := .raw _) (.tail _ (.tail _ (.head _)))
  have hlm := F.get (x := .raw _) (.tail _ (.tail _ (.tail _ (.head _))))
  have hob := F.get (x := .raw _) (.tail _ (.tail _ (.tail _ (.tail _ (.head _)))))
  have nd := F.nd
  simp only [gLed, List.map_cons, List.map_nil, List.nodup_cons, List.mem_cons, not_or] at nd
  obtain ⟨_, ⟨n4, n5, n6, n6b, _⟩, ⟨n7, n8, n8b, _⟩, _⟩ := nd
  obtain ⟨nla, hla⟩ := hlB
  have hla' := fun (s : Shared) (m : Str → Option Value) (news : List (Addr × Sh)) (F : Fs ([145] ++ frs A₁) sB C m news s) => F.old haD hla
  have hln : a ≠ it := fun q => by
    have h1 := hnew it (by simp)
    rw [← q] at h1
    exact Nat.lt_irrefl _ (Nat.lt_of_lt_of_le (Heap.lt_size hla) h1)
  have hlx : a ≠ x := fun q => by
    have h1 := hnew x (by simp)
    rw [← q] at h1
    exact Nat.lt_irrefl _ (Nat.lt_of_lt_of_le (Heap.lt_size hla) h1)
  refine next_ret Ws.X hx G.dx (f := 89) rfl (by kernel_rfl) (hnext A₂ (C₂.mono (by omega) (by omega))) fun v s1 hp => ?_
  obtain ⟨T, y, dy, t, rfl, hT, hTs, hys, hy, hdy, hx', hit', X⟩ := hp
  have hND : NoCode s.heap [x, it] := NoCode.cons hx (fun _ q => nomatch q) (NoCode.cons hit (fun vs q q' t' h => by
    obtain ⟨v, k, hoi⟩ := hoi
    rw [hoi] at q; cases q; simp at h) .nil)
  have hc1 : ∀ (s : Shared) ox oi, LamAt s.heap lam cell (c :: first) → s.heap.get? x = some ox → s.heap.get? it = some oi → (∀ v, ox.data ≠ .cell v) → (∀ v, oi.data ≠ .cell v) → cell ∉ [x, it] := fun s ox oi h h1 h2 h3 h4 q => by
    obtain ⟨_, _, _, _, _, _, oc, hc, hcd⟩ := h
    simp only [List.mem_cons, List.not_mem_nil, or_false] at q
    rcases q with rfl | rfl
    · rw [h1] at hc; cases hc; exact h3 _ hcd
    · rw [h2] at hc; cases hc; exact h4 _ hcd
  have G1 := G.ext X (G.tab.ext X (by simp [hkx, hki]) hND) (by simp [Ne.symm n6, Ne.symm n8]) (hc1 s _ _ G.lam hx hit (fun _ q => nomatch q) (fun _ q => by obtain ⟨v, k, hoi⟩ := hoi; rw [hoi] at q; cases q)) hND
  have F1 := F.re (D' := [x, it]) (gLed x it gA lam B (slO 93 dx (gbS (.int (nn + 1) t) (.bool b) cv (.bool true) (.bool true) (.bool true) (.ref it) (.ref lam) (.int (nn + 1) t) (.bool b))) (liO a i) og ol ob) rfl X (one_of (k := kmax) (by simp [hkx, hki]) (by decide))
    (fun d hd => .inr (by simp at hd ⊢; rcases hd with rfl | rfl <;> simp)) ⟨hx', hit', X.keep gA _ (by simp [Ne.symm n5, Ne.symm n7]) hg, X.keep lam _ (by simp [Ne.symm n6, Ne.symm n8]) hlm, X.keep B _ (by simp [Ne.symm n6b, Ne.symm n8b]) hob, trivial⟩
  have hLs := F.ltL
  have hsB : ∀ d, s.heap.objs.size ≤ d → sB.heap.objs.size ≤ d := fun d h => Nat.le_trans F.newL (Nat.le_trans (Nat.le_of_lt hLs) h)
  have hTy : T ≠ y := fun q => by rw [q, hy] at hT; cases hT
  have F2 := F1.put (x := .raw (slO 138 dy _)) (a := y) hy (.inr (hsB _ hys)) (fun q => by rw [q] at hys; exact absurd hLs (Nat.not_lt.mpr hys)) (fun p hp q => by
    have h1 : p.1 ∈ (gLed x it gA lam B (slO 93 dx sl) oi og ol ob).map (·.1) := List.mem_map_of_mem (f := (·.1)) hp
    obtain ⟨r, hr, h2⟩ := List.mem_map.mp h1
    have h3 := F.lt hr
    rw [h2, q] at h3; exact absurd h3 (Nat.not_lt.mpr hys))
  have F3 := F2.put (x := .raw (seqObj "tuple" #[.bool b, .ref y] 0)) (a := T) hT (.inr (hsB _ hTs)) (fun q => by rw [q] at hTs; exact absurd hLs (Nat.not_lt.mpr hTs)) (fun p hp q => by
    rcases List.mem_cons.mp hp with rfl | hp
    · exact hTy q.symm
    have h1 : p.1 ∈ (gLed x it gA lam B (slO 93 dx sl) oi og ol ob).map (·.1) := List.mem_map_of_mem (f := (·.1)) hp
    obtain ⟨r, hr, h2⟩ := List.mem_map.mp h1
    have h3 := F.lt hr
    rw [h2, q] at h3; exact absurd h3 (Nat.not_lt.mpr hTs))
  obtain ⟨m₀, hn₀, _⟩ := F3.loc
  refine stX F3 fun s2 F4 hsb hgs => ?_
  have G2 := G1.local hsb hgs hn₀ F4.loc.choose_spec.1 (F3.notDicE hm0 G1.dx)
  have hdy2 : DicE s2.heap dy := by
    obtain ⟨od, ep, e1, e2⟩ := hdy
    exact ⟨od, ep, (hsb.2 dy (F3.notDicE hm0 ⟨od, ep, e1, e2⟩)).trans e1, e2⟩
  have U₂ := hUp F4
  have hx4 := F4.get (x := .raw _) (.tail _ (.tail _ (.head _)))
  have hit4 := F4.get (x := .raw _) (.tail _ (.tail _ (.tail _ (.head _))))
  have hlm4 := F4.get (x := .raw _) (.tail _ (.tail _ (.tail _ (.tail _ (.tail _ (.head _))))))
  have hND2 : NoCode s2.heap ([x, it] ++ frs A₂) := (NoCode.cons hx4 (fun _ q => nomatch q) (NoCode.cons hit4 (fun vs q => by cases q; simp) .nil)).app (NoCode.frs U₂)
  have K : Key w ([x, it] ++ frs A₂) s2 lam (keyOf (c :: first)) okText := lam_keyOf G2.lam hz1 (fun q => by
      rcases List.mem_append.mp q with q | q
      · simp at q; rcases q with q | q
        · exact n6 q.symm
        · exact n8 q.symm
      · obtain ⟨d, hd⟩ := hlam
        exact U₂.notD hlm4 (fun _ _ q => by rw [hd] at q; cases q) q) (fun q => by
      rcases List.mem_append.mp q with q | q
      · exact hc1 s2 _ _ G2.lam hx4 hit4 (fun _ q => nomatch q) (fun _ q => nomatch q) q
      · obtain ⟨_, _, _, _, _, _, oc, hc, hcd⟩ := G2.lam
        exact U₂.notD hc (fun _ _ q => by rw [hcd] at q; cases q) q) hND2
  refine turn_elt ih C₂ U₂ hfr U₁ W rfl F4 G2 hdy2 ⟨nla, hla' _ _ _ F4⟩ hln hlx hcv hlam K hks hnew hitems htail hz hv Gd hms fun t' s' ox oi halt F5 G5 => ?_
  exact ⟨mm, rfl, hQ t' s' ox oi _ t halt F5 hm0 G5⟩

/-- the last turn: the groups are spent -/
theorem turn_end {w : World} {A₁ : Around} {R : GenEnd} {Z : Nat → Shared → Value → Shared → Prop} {Z' : Nat → Shared → Shared → Prop} {mm : Nat} {g sB s s₀ : Shared} {pm code : Value} {C x it dx gA lam B cell gi : Addr} {og ol ob : Obj} {m : Str → Option Value} {elt iter : Expr} {px pos : Pos}
    {cg ck cv hv ht kf se tk : Value} {first : List Nat} {i : Nat} {d u : Nat} (C₁ : Cx A₁ (d + 7) (u + 96)) (U₁ : Up kmax A₁ sB.heap) (W : Wo (KK w) sB.heap)
    (F : Fs ([145] ++ frs A₁) sB C m (gLed x it gA lam B (slO 93 dx (gbS cg ck cv (.bool false) hv ht (.ref it) kf se tk)) (liE i) og ol ob) s) (G : GT bb lam cell first dx gi s)
    (hks : kmax ≤ sB.heap.objs.size) (hnew : ∀ d ∈ [x, it, gA, lam, B], sB.heap.objs.size ≤ d)
    (hR : ∀ s', Fs ([145] ++ frs A₁) sB C m [(B, .raw ob)] s' → TabOk bb s'.heap → R mm s₀ (.ok .next) s') :
    Seg (model pw w) A₁.in1.in1.in1 R (Prot Z Z') mm s₀ (genLoop elt iter "group" px gScope pos x (gEnv pm g C code)) ((model pw w).den (genLoop elt iter "group" px gScope pos x (gEnv pm g C code))) [] s := by
  have hD : okD tabP kmax ([145] ++ frs A₁) := okDf (fun b hb => .inl (by simpa using hb)) U₁
  have hkx : kmax ≤ x := Nat.le_trans hks (hnew x (by simp))
  have hki : kmax ≤ it := Nat.le_trans hks (hnew it (by simp))
  have hkC : kmax ≤ C := Nat.le_trans hks F.newL
  have C₂ : Cx (A₁.in1.in1.in1.over (genLoop elt iter "group" px gScope pos x (gEnv pm g C code)) []) (d + 6) (u + 90) :=
    Cx.loop (Cx.in1 (Cx.in1 (Cx.in1 C₁)))
  have hfr : frs (A₁.in1.in1.in1.over (genLoop elt iter "group" px gScope pos x (gEnv pm g C code)) []) = C :: frs A₁ := by
    obtain ⟨l, hl, _⟩ := id U₁
    exact frs_loop (A := A₁.in1.in1.in1) (l := l) hl rfl
  have U₂ : Up kmax (A₁.in1.in1.in1.over (genLoop elt iter "group" px gScope pos x (gEnv pm g C code)) []) s.heap :=
    Up.loop (A := A₁.in1.in1.in1) U₁ F rfl (by show ScopeKind.function ≠ _; decide) hkC
  refine seg_turn rfl ?_
  generalize A₁.in1.in1.in1.over (genLoop elt iter "group" px gScope pos x (gEnv pm g C code)) [] = A₂ at C₂ hfr U₂ ⊢
  have Ws := W.ext (small _) hD F.ext
  have hx := F.get (x := .raw _) (.head _)
  have hit := F.get (x := .raw _) (.tail _ (.head _))
  have hob := F.get (x := .raw _) (.tail _ (.tail _ (.tail _ (.tail _ (.head _)))))
  have nd := F.nd
  simp only [gLed, List.map_cons, List.map_nil, List.nodup_cons, List.mem_cons, not_or] at nd
  obtain ⟨_, ⟨n4, n5, n6, n6b, _⟩, ⟨n7, n8, n8b, _⟩, _⟩ := nd
  refine next_thr (Post := fun _ => True) Ws.X hx G.dx (f := 89) rfl (by kernel_rfl) (gnext_3 (C₂.mono (by omega) (by omega)) Ws U₂ hx G.dx (.inr hit) hkx hki) fun s' X _ => ?_
  have hkD : ∀ d ∈ [x, it] ++ frs A₂, kmax ≤ d := fun d hd => by
    rcases List.mem_append.mp hd with h | h
    · simp at h; rcases h with rfl | rfl <;> assumption
    · exact (U₂.mem h).1
  have hND : NoCode s.heap ([x, it] ++ frs A₂) := (NoCode.cons hx (fun _ q => nomatch q) (NoCode.cons hit (fun vs q => by cases q; simp) .nil)).app (NoCode.frs U₂)
  refine hR s' ((F.drop (news' := [(B, .raw ob)]) (by simp [gLed])).call X (one_of (k := kmax) hkD (by decide)) (fun d hd => ?_) (fun p hp q => ?_)) (G.tab.ext X hkD hND)
  · rw [hfr] at hd
    simp only [List.cons_append, List.nil_append, List.mem_cons] at hd
    rcases hd with rfl | rfl | rfl | hd
    · exact .inr (hnew _ (by simp))
    · exact .inr (hnew _ (by simp))
    · exact .inr F.newL
    · exact .inl (List.mem_append_right _ hd)
  · rw [List.mem_singleton.mp hp, hfr] at q
    simp only [List.cons_append, List.nil_append, List.mem_cons] at q
    rcases q with q | q | q | q
    · exact n6b q.symm
    · exact n8b q.symm
    · exact F.ne (p := (B, .raw ob)) (by simp) q
    · exact F.noFrame U₁ (p := (B, .raw ob)) (by simp) q
/-- a state between two turns -/
def Ph (bb : Nat) (A₁ : Around) (sB : Shared) (C x it dx gA lam B cell gi : Addr) (og ol : Obj) (first : List Nat) (P : Obj → Obj → Prop) (ob : Obj) (s : Shared) : Prop :=
  ∃ m ox oi, P ox oi ∧ Fs ([145] ++ frs A₁) sB C m (gLed x it gA lam B ox oi og ol ob) s ∧ m ".0" = some (.ref x) ∧ GT bb lam cell first dx gi s
theorem Ph.gl {A₁ : Around} {sB s : Shared} {C x it dx gA lam B cell gi : Addr} {og ol ob : Obj} {first : List Nat} {P : Obj → Obj → Prop} (h : Ph bb A₁ sB C x it dx gA lam B cell gi og ol first P ob s) : gi < s.gens.size := let ⟨_, _, _, _, _, _, G⟩ := h; G.gl
theorem Ph.at {A₁ : Around} {sB s : Shared} {C x it dx gA lam B cell gi : Addr} {og ol ob : Obj} {first : List Nat} {P : Obj → Obj → Prop} (h : Ph bb A₁ sB C x it dx gA lam B cell gi og ol first P ob s) : s.heap.get? B = some ob :=
  let ⟨_, _, _, _, F, _, _⟩ := h; F.get (x := .raw _) (.tail _ (.tail _ (.tail _ (.tail _ (.head _)))))
theorem Ph.gen {A₁ : Around} {sB s : Shared} {C x it dx gA lam B cell gi : Addr} {og ol ob : Obj} {first : List Nat} {P : Obj → Obj → Prop} (h : Ph bb A₁ sB C x it dx gA lam B cell gi og ol first P ob s) : s.heap.get? gA = some og :=
  let ⟨_, _, _, _, F, _, _⟩ := h; F.get (x := .raw _) (.tail _ (.tail _ (.head _)))
theorem Ph.ext {A₁ : Around} {sB s : Shared} {C x it dx gA lam B cell gi : Addr} {og ol ob : Obj} {first : List Nat} {P : Obj → Obj → Prop} (h : Ph bb A₁ sB C x it dx gA lam B cell gi og ol first P ob s) : Ext ([145] ++ frs A₁) sB s := let ⟨_, _, _, _, F, _, _⟩ := h; F.ext
theorem Ph.feed {A₁ : Around} {sB s : Shared} {C x it dx gA lam B cell gi : Addr} {og ol : Obj} {first : List Nat} {P : Obj → Obj → Prop} {acc acc' : Array Value} {c c' : Nat} (h : Ph bb A₁ sB C x it dx gA lam B cell gi og ol first P (lsO acc c) s)
    {g1 g2 : GenState} (hb1 : g1.bare = true) (hb2 : g2.bare = true) (hgi : sB.gens.size ≤ gi) {h' : Heap} (hB : h'.get? B = some (lsO acc' c')) (hs : Heap.SameBut B s.heap h') (hkB : kmax ≤ B) (hlam : ∃ d, ol.data = .func d) :
    Ph bb A₁ sB C x it dx gA lam B cell gi og ol first P (lsO acc' c') (({ s.setGen gi g1 with heap := h' } : Shared).setGen gi g2) := by
  obtain ⟨m, ox, oi, hP, F, hm, G⟩ := h
  have hob : s.heap.get? B = some (lsO acc c) := F.get (x := .raw _) (.tail _ (.tail _ (.tail _ (.tail _ (.head _)))))
  have hlm : s.heap.get? lam = some ol := F.get (x := .raw _) (.tail _ (.tail _ (.tail _ (.head _))))
  have F1 := (F.setGen hgi hb1).upd (pre := [(x, .raw ox), (it, .raw oi), (gA, .raw og), (lam, .raw ol)]) (post := []) rfl (x' := .raw (lsO acc' c')) hB hs s.toks
  have F2 := F1.setGen hgi hb2
  have X : Ext [B] (s.setGen gi g1) { s.setGen gi g1 with heap := h' } := (Ext.refl [B] (s.setGen gi g1)).but (W := [B]) (tk := s.toks) (fun b o hb e => (hs.2 b (by simpa using hb)).trans e) (fun b hb => by
    rw [List.mem_singleton.mp hb]
    exact .inl ⟨by simp, fun o e es ep q => by rw [show (s.setGen gi g1).heap.get? B = _ from hob] at e; cases e; cases q⟩)
  have hND : NoCode (s.setGen gi g1).heap [B] := NoCode.cons (show (s.setGen gi g1).heap.get? B = _ from hob) (fun _ q => nomatch q) .nil
  have G1 := G.setGen gi g1
  refine ⟨m, ox, oi, hP, F2, hm, (G1.ext X (G1.tab.ext X (by simpa using hkB) hND) (fun q => ?_) (fun q => ?_) hND).setGen gi g2⟩
  · obtain ⟨d, hd⟩ := hlam
    rw [← List.mem_singleton.mp q, hlm] at hob
    cases hob; cases hd
  · obtain ⟨_, _, _, _, _, _, oc, hc, hcd⟩ := G1.lam
    rw [List.mem_singleton.mp q, show (s.setGen gi g1).heap.get? B = _ from hob] at hc; cases hc; cases hcd

theorem group_feed {w : World} {n : Nat} (ih : InnerAt bb w n) {A₁ : Around} {R : Result → Shared → Prop} {g sB s : Shared} {pm code : Value} {C x it dx gA lam B cell a gi : Addr} {og ol : Obj} {m : Str → Option Value} {p1 p2 p3 p4 p5 p6 p7 p8 px pos : Pos} {iter : Expr}
    {items : Array Value} {c c0 : Nat} {first : List Nat} {r : List (List Nat)} {t0 t1 : Tok}
    (C₁ : Cx A₁ (6 * n + 21) (40 * n + 306)) (U₁ : Up kmax A₁ sB.heap) (W : Wo (KK w) sB.heap) (hm0 : m ".0" = some (.ref x))
    (F : Fs ([145] ++ frs A₁) sB C m (gLed x it gA lam B (slO 93 dx (gbS (.int 0 t0) .none .none (.bool false) (.bool false) (.bool false) (.ref it) (.ref lam) (.int 0 t1) .none)) (liO a 0) og ol (lsO #[] c0)) s) (G : GT bb lam cell (c :: first) dx gi s)
    (hlB : sB.heap.PlainList a items) (haD : a ∉ [145] ++ frs A₁) (hlam : ∃ d, ol.data = .func d) (hog : ∀ h : Heap, h.get? gA = some og → h.IsGen gA gi)
    (hks : kmax ≤ sB.heap.objs.size) (hnew : ∀ d ∈ [x, it, gA, lam, B], sB.heap.objs.size ≤ d) (hgi : sB.gens.size ≤ gi)
    (hgs : s.gens[gi]? = some (.fresh (genStart (gElt p1 p2 p3 p4 p5 p6 p7 p8) iter "group" px gScope pos x (gEnv pm g C code))))
    (hv : SV items.toList ((c :: first) :: r)) (Gd : Good ((c :: first) :: r)) (hms : mu ((c :: first) :: r) ≤ n + 1) (hdw : ((c :: first) :: r).dropWhile (sameHd (c :: first)) ≠ [])
    (fin : ∀ s' acc c', s'.heap.get? B = some (lsO acc c') → SV acc.toList [rx n (((c :: first) :: r).takeWhile (sameHd (c :: first))) [], rx n (((c :: first) :: r).dropWhile (sameHd (c :: first))) []] → Ext ([145] ++ frs A₁) sB s' → TabOk bb s'.heap → R (.ok (.ret (.ref B))) s') :
    Feed pw w A₁.in1.in1 gA B R (.ref B) 3 #[] s := by
  have hD : okD tabP kmax ([145] ++ frs A₁) := okDf (fun b hb => .inl (by simpa using hb)) U₁
  have hkx : kmax ≤ x := Nat.le_trans hks (hnew x (by simp))
  have hki : kmax ≤ it := Nat.le_trans hks (hnew it (by simp))
  have hkB : kmax ≤ B := Nat.le_trans hks (hnew B (by simp))
  have hfirst : first.length ≤ 1000 := by have := Gd.sz _ (.head _); simp at this; omega
  have hup := sameHd_split (w := c :: first) (c := c) rfl Gd.up
  have hne := below_ne (w1 := c :: first) (by simp) Gd.up
  have hl : (c :: first) :: r = ((c :: first) :: r).takeWhile (sameHd (c :: first)) ++ ((c :: first) :: r).dropWhile (sameHd (c :: first)) := List.takeWhile_append_dropWhile.symm
  have htw := take_ne (c :: first) r
  have hall := List.all_takeWhile (p := sameHd (c :: first)) (l := (c :: first) :: r)
  have G1 : Good (((c :: first) :: r).takeWhile (sameHd (c :: first))) := Gd.sub (List.takeWhile_sublist _)
  have G2 : Good (((c :: first) :: r).dropWhile (sameHd (c :: first))) := Gd.sub (List.dropWhile_sublist _)
  have hmm : (((c :: first) :: r).takeWhile (sameHd (c :: first))).length + (((c :: first) :: r).dropWhile (sameHd (c :: first))).length = ((c :: first) :: r).length := by rw [← List.length_append, List.takeWhile_append_dropWhile]
  have mp1 := List.length_pos_iff.mpr htw
  have mp2 := List.length_pos_iff.mpr hdw
  have mq1 : mu (((c :: first) :: r).takeWhile (sameHd (c :: first))) ≤ n := mu_short hms (by omega)
  have mq2 : mu (((c :: first) :: r).dropWhile (sameHd (c :: first))) ≤ n := mu_short hms (by omega)
  have hmt : ∀ y ∈ ((c :: first) :: r).takeWhile (sameHd (c :: first)), y ∈ (c :: first) :: r := fun y hy => (List.takeWhile_sublist _).subset hy
  have hmd : ∀ y ∈ ((c :: first) :: r).dropWhile (sameHd (c :: first)), y ∈ (c :: first) :: r := fun y hy => (List.dropWhile_sublist _).subset hy
  generalize ((c :: first) :: r).takeWhile (sameHd (c :: first)) = tw at *
  generalize ((c :: first) :: r).dropWhile (sameHd (c :: first)) = dw at *
  have okt : ∀ y ∈ (c :: first) :: r, ∀ t, okText (.str (S y) t) ∧ handedIn (Value.str (S y) t) = true := fun y hy t => ⟨okText_of (hne y hy) (Nat.le_trans (Gd.sz y hy) (by decide)), rfl⟩
  obtain ⟨cv1, i1, ⟨k1, ok1, hh1⟩, sv1, its1⟩ := sv_cut hv hl (fun v => keyOf (c :: first) v = true ∧ okText v ∧ handedIn v = true) (fun y hy t => ⟨by rw [keyOf_str]; exact List.all_eq_true.mp hall y hy, okt y (hmt y hy) t⟩) htw
  obtain ⟨cv2, i2, ⟨k2, ok2, hh2⟩, sv2, its2, iend⟩ := sv_drop hv hl (fun v => keyOf (c :: first) v = false ∧ okText v ∧ handedIn v = true) (fun y hy t => ⟨by rw [keyOf_str]; exact hup y hy, okt y (hmd y hy) t⟩) hdw
  have hq : 1 ≤ tw.length := List.length_pos_iff.mpr htw
  have hq2 : 1 ≤ dw.length := List.length_pos_iff.mpr hdw
  have hlen := Gd.len
  rw [hl, List.length_append] at hlen
  -- the phases
  let P1 : Obj → Obj → Prop := fun ox oi => ∃ t, ox = slO 93 dx (gbS (.int (0 + 1) t) (.bool false) cv2 (.bool true) (.bool true) (.bool true) (.ref it) (.ref lam) (.int (0 + 1) t) (.bool true)) ∧ oi = liO a (tw.length + 1)
  let P2 : Obj → Obj → Prop := fun ox oi => ∃ t i, ox = slO 93 dx (gbS (.int (0 + 1 + 1) t) .none .none (.bool false) (.bool false) (.bool true) (.ref it) (.ref lam) (.int (0 + 1 + 1) t) (.bool false)) ∧ oi = liE i
  let PP : Nat → Obj → Obj → Prop := fun mm => match mm with | 0 => P2 | _ => P1
  let VV : Nat → List Nat := fun mm => match mm with | 0 => rx n dw [] | _ => rx n tw []
  let Z : Nat → Shared → Value → Shared → Prop := fun mm s₀ v s => ∃ ob, s₀.heap.get? B = some ob ∧ (∃ t, v = .str (S (VV mm)) t) ∧ Ph bb A₁ sB C x it dx gA lam B cell gi og ol (c :: first) (PP mm) ob s
  let Z' : Nat → Shared → Shared → Prop := fun mm _ s'' => ∃ ob, Ph bb A₁ sB C x it dx gA lam B cell gi og ol (c :: first) (PP mm) ob s''
  let P : Nat → Shared → Shared → Prop := fun k s₀ s₁ => k = 0 ∧ ∃ ob m, s₀.heap.get? B = some ob ∧ Fs ([145] ++ frs A₁) sB C m [(B, .raw ob)] s₁ ∧ TabOk bb s₁.heap
  let RR : GenEnd := fun k s₀ q s₁ => q = .ok .next ∧ P k s₀ s₁
  have obOf : ∀ {s : Shared} {ox oi ob : Obj} {m : Str → Option Value}, Fs ([145] ++ frs A₁) sB C m (gLed x it gA lam B ox oi og ol ob) s → s.heap.get? B = some ob := fun F => F.get (x := .raw _) (.tail _ (.tail _ (.tail _ (.tail _ (.head _)))))
  have ogOf : ∀ {s : Shared} {ox oi ob : Obj} {m : Str → Option Value}, Fs ([145] ++ frs A₁) sB C m (gLed x it gA lam B ox oi og ol ob) s → s.heap.IsGen gA gi := fun F => hog _ (F.get (x := .raw _) (.tail _ (.tail _ (.head _))))
  have seg3 : ∀ s'', Z' 0 s'' s'' → Seg (model pw w) A₁.in1.in1.in1 RR (Prot Z Z') 0 s'' (genLoop (gElt p1 p2 p3 p4 p5 p6 p7 p8) iter "group" px gScope pos x (gEnv pm g C code)) ((model pw w).den (genLoop (gElt p1 p2 p3 p4 p5 p6 p7 p8) iter "group" px gScope pos x (gEnv pm g C code))) [] s'' := by
    rintro s'' ⟨ob, m', ox, oi, ⟨t, i, rfl, rfl⟩, F', hm', G'⟩
    exact turn_end (d := 6 * n + 14) (u := 40 * n + 210) C₁ U₁ W F' G' hks hnew fun s3 F3 T3 => ⟨rfl, rfl, ob, _, obOf F', F3, T3⟩
  have seg2 : ∀ s'', Z' 1 s'' s'' → Seg (model pw w) A₁.in1.in1.in1 RR (Prot Z Z') 1 s'' (genLoop (gElt p1 p2 p3 p4 p5 p6 p7 p8) iter "group" px gScope pos x (gEnv pm g C code)) ((model pw w).den (genLoop (gElt p1 p2 p3 p4 p5 p6 p7 p8) iter "group" px gScope pos x (gEnv pm g C code))) [] s'' := by
    rintro s'' ⟨ob, m', ox, oi, ⟨t, rfl, rfl⟩, F', hm', G'⟩
    refine turn_seg (mm := 0) (b := false) (nn := 0 + 1) (cv := cv2) (i := tw.length + 1) (j := dw.length - 1) (ws := dw) ih C₁ U₁ W hm' hfirst F' G' hlB haD hh2 hlam ⟨_, _, rfl⟩ hks hnew
      (fun A₂ C₂ => gnext_2 C₂ (W.ext (small _) hD F'.ext) (F'.get (x := .raw _) (.head _)) G'.dx (F'.get (x := .raw _) (.tail _ (.head _))) (by decide) hkx hki)
      (fun q hq => let ⟨v, e1, e2, e3, e4⟩ := its2 q hq; ⟨v, e1, e3, e2, e4⟩) (.inr iend) (by omega) sv2 G2 (by omega) ?_
    rintro t2 s3 ox oi m3 t3 halt F3 hm3 G3
    rcases halt with ⟨v, e, _⟩ | ⟨_, rfl, rfl⟩
    · rw [iend] at e; cases e
    · exact ⟨⟨ob, obOf F', ⟨t2, rfl⟩, m3, _, _, ⟨t3, _, rfl, rfl⟩, F3, hm3, G3⟩, fun s4 hz => seg3 s4 hz⟩
  have seg1 : ∀ s₀ s', Ext [] (s.setGen gi .running) s' → s₀.heap.get? B = some (lsO #[] c0) → Seg (model pw w) A₁.in1.in1.in1 RR (Prot Z Z') 2 s₀ (genLoop (gElt p1 p2 p3 p4 p5 p6 p7 p8) iter "group" px gScope pos x (gEnv pm g C code)) ((model pw w).den (genLoop (gElt p1 p2 p3 p4 p5 p6 p7 p8) iter "group" px gScope pos x (gEnv pm g C code))) [] s' := by
    intro s₀ s' X hB0
    have F' := (F.setGen hgi (x := .running) rfl).step X
    have Gr := G.setGen gi .running
    have G' := Gr.ext X (Gr.tab.step X) (by simp) (by simp) .nil
    have hx' := F'.get (x := .raw _) (.head _)
    have hit' := F'.get (x := .raw _) (.tail _ (.head _))
    have hlm' := F'.get (x := .raw _) (.tail _ (.tail _ (.tail _ (.head _))))
    have nd := F'.nd
    simp only [gLed, List.map_cons, List.map_nil, List.nodup_cons, List.mem_cons, not_or] at nd
    obtain ⟨_, ⟨n4, n5, n6, n6b, _⟩, ⟨n7, n8, n8b, _⟩, _⟩ := nd
    obtain ⟨nla, hla⟩ := id hlB
    have hlt := Heap.lt_size hla
    have hln : a ≠ it := fun q => Nat.lt_irrefl _ (Nat.lt_of_lt_of_le hlt (q ▸ hnew it (by simp)))
    have hlx : a ≠ x := fun q => Nat.lt_irrefl _ (Nat.lt_of_lt_of_le hlt (q ▸ hnew x (by simp)))
    have K : Key w [x, it] s' lam (keyOf (c :: first)) okText := lam_keyOf G'.lam hfirst (by simp [Ne.symm n6, Ne.symm n8]) (fun q => by
        obtain ⟨_, _, _, _, _, _, oc, hc, hcd⟩ := G'.lam
        simp only [List.mem_cons, List.not_mem_nil, or_false] at q
        rcases q with q | q
        · rw [q, show s'.heap.get? x = _ from hx'] at hc; cases hc; cases hcd
        · rw [q, show s'.heap.get? it = _ from hit'] at hc; cases hc; cases hcd)
      (NoCode.cons hx' (fun _ q => nomatch q) (NoCode.cons hit' (fun vs q => by cases q; simp) .nil))
    refine turn_seg (mm := 1) (b := true) (nn := 0) (cv := cv1) (i := 1) (j := tw.length - 1) (ws := tw) ih C₁ U₁ W hm0 hfirst F' G' hlB haD hh1 hlam ⟨_, _, rfl⟩ hks hnew
      (fun A₂ C₂ => by
        have h := gnext_1 (key := keyOf (c :: first)) (ok := okText) (i := 0) (v := cv1) C₂ (W.ext (small _) hD F'.ext) hx' G'.dx hit' ⟨nla, F'.old haD hla⟩ i1 ok1 hln hlx K hkx hki
        rw [k1] at h
        exact h)
      (fun q hq => let ⟨v, e1, e2, e3, e4⟩ := its1 q hq; ⟨v, e1, e3, e2, e4⟩) (.inl ⟨cv2, by rw [show 1 + (tw.length - 1) = tw.length by omega]; exact i2, ok2, by rw [k2]; decide⟩) (by omega) sv1 G1 (by omega) ?_
    rintro t2 s3 ox oi m3 t3 halt F3 hm3 G3
    rw [show 1 + (tw.length - 1) = tw.length by omega] at halt
    rcases halt with ⟨v, e, rfl, rfl⟩ | ⟨e, _⟩
    · rw [i2] at e; cases e
      rw [k2] at F3
      exact ⟨⟨_, hB0, ⟨t2, rfl⟩, m3, _, _, ⟨t3, rfl, rfl⟩, F3, hm3, G3⟩, fun s4 hz => seg2 s4 hz⟩
    · rw [i2] at e; cases e
  have hroom : A₁.in1.in1.depth < recursionLimit := by have := C₁.dp; show A₁.depth < _; omega
  have Ws := W.ext (small _) hD F.ext
  have hB0 : s.heap.get? B = some (lsO #[] c0) := obOf F
  show wpAny _ A₁.in1.in1 (pyNext (.ref gA)) _ _ s
  refine wpAny_pyNext_genexpQ (P := P) (Y := Prot Z Z') (n := 2) C₁.hh Ws.lim hroom (ogOf F) hgs ⟨rfl, seg_start (fun Q' E' hq => ?_) (fun s' X => seg1 _ s' X hB0)⟩ (fun v s1 gs1 hb1 hY => ?_) (fun s1 hP _ _ => absurd hP.1 (by decide))
  · have C3 := Cx.start (elt := gElt p1 p2 p3 p4 p5 p6 p7 p8) (iter := iter) (x := "group") (px := px) (scope := gScope) (pos := pos) (I := x) (cenv := gEnv pm g C code) (A := A₁.in1.in1.in1) (d := 2) (u := 20) (Cx.in1 (Cx.in1 (Cx.in1 (C₁.mono (by omega) (by omega)))))
    have Fr := F.setGen hgi (x := .running) rfl
    have Wr := W.ext (small _) hD Fr.ext
    exact iter_own (Fr.frIn W (small _) hD) (F.get (x := .raw _) (.head _)) G.dx (fi := 75) rfl (by kernel_rfl) (gv := .ref 89) rfl (g_iter C3 Wr) hq
  obtain ⟨⟨ob, hob, ⟨tv, rfl⟩, hPh⟩, hk⟩ := hY
  have hobe : ob = lsO #[] c0 := Option.some.inj (hob.symm.trans (show (s.setGen gi .running).heap.get? B = some (lsO #[] c0) from hB0))
  rw [hobe] at hPh
  have hgl1 := hPh.gl
  have hB1 : s1.heap.get? B = some (lsO #[] c0) := hPh.at
  refine ⟨⟨c0, hB1⟩, by decide, fun h2 c2 hB2 hs2 => ?_⟩
  have hPh2 := hPh.feed hb1 (g2 := .running) rfl hgi hB2 hs2 hkB hlam
  have W2 := W.ext (small _) hD hPh2.ext
  have hg2 := hog _ hPh2.gen
  show wpAny _ A₁.in1.in1 (pyNext (.ref gA)) _ _ ({ s1.setGen gi gs1 with heap := h2 } : Shared)
  refine wpAny_pyNext_genexpQ (P := P) (Y := Prot Z Z') (n := 1) C₁.hh W2.lim hroom hg2 (setGen_at hgl1) (hk _ ⟨_, hPh2⟩) (fun v s3 gs3 hb3 hY => ?_) (fun s1 hP _ _ => absurd hP.1 (by decide))
  obtain ⟨⟨ob3, hob3, ⟨tv3, rfl⟩, hPh3⟩, hk3⟩ := hY
  have hobe3 : ob3 = lsO #[.str (S (rx n tw [])) tv] c2 := Option.some.inj (hob3.symm.trans (show (({ s1.setGen gi gs1 with heap := h2 } : Shared).setGen gi .running).heap.get? B = some (lsO #[.str (S (rx n tw [])) tv] c2) from hB2))
  rw [hobe3] at hPh3
  have hgl3 := hPh3.gl
  have hB3 : s3.heap.get? B = some (lsO #[.str (S (rx n tw [])) tv] c2) := hPh3.at
  refine ⟨⟨c2, hB3⟩, by simp, fun h4 c4 hB4 hs4 => ?_⟩
  have hPh4 := hPh3.feed hb3 (g2 := .running) rfl hgi hB4 hs4 hkB hlam
  have W4 := W.ext (small _) hD hPh4.ext
  have hg4 := hog _ hPh4.gen
  show wpAny _ A₁.in1.in1 (pyNext (.ref gA)) _ _ ({ s3.setGen gi gs3 with heap := h4 } : Shared)
  refine wpAny_pyNext_genexpQ (P := P) (Y := Prot Z Z') (n := 0) C₁.hh W4.lim hroom hg4 (setGen_at hgl3) (hk3 _ ⟨_, hPh4⟩) (fun v s5 gs5 hb5 hY => ?_) (fun s5 hP h6 hk6 => ?_)
  · obtain ⟨⟨ob', _, _, hPh5⟩, hk⟩ := hY
    exact (hk s5 ⟨ob', hPh5⟩).elim
  obtain ⟨_, ob, m5, hob5, F5, T5⟩ := hP
  have hobe5 : ob = lsO #[.str (S (rx n tw [])) tv, .str (S (rx n dw [])) tv3] c4 := Option.some.inj (hob5.symm.trans (show (({ s3.setGen gi gs3 with heap := h4 } : Shared).setGen gi .running).heap.get? B = _ from hB4))
  rw [hobe5] at F5
  have X6 : Ext [] (s5.setGen gi .finished) { s5.setGen gi .finished with heap := h6 } := Ext.heap (s := s5.setGen gi .finished) (tk := s5.toks) fun b o _ e => hk6 b o e
  have F6 := (F5.setGen hgi (x := .finished) rfl).step X6
  have T6 : TabOk bb ({ s5.setGen gi .finished with heap := h6 } : Shared).heap := TabOk.step (s := s5.setGen gi .finished) T5 X6
  exact fin _ _ c4 (F6.get (x := .raw _) (.head _)) (.cons (.cons .nil)) F6.ext T6

/-- '|'.join(regex_opt_inner(list(group[1]), '') for group in groupby(strings, ..)) -/
theorem join_groups {w : World} {n : Nat} (ih : InnerAt bb w n) {A : Around} {E : Value → Shared → Prop} {Q : Value → Shared → Prop} {g s : Shared} {m : Str → Option Value} {news : List (Addr × Sh)} {pm : Value} {tj : Tok} {p1 p2 p3 p4 p5 p6 p7 p8 q1 q2 q3 px pos : Pos} {a : Addr} {items : Array Value} {c : Nat} {first : List Nat} {r : List (List Nat)} {tw : Tok}
    (C : Cx (A.deeper (env13 pm g)) (6 * n + 25) (40 * n + 337)) (W : Wo (KK w) g.heap) (U : Up kmax A g.heap) (F : Fs [] g g.heap.objs.size m news s) (T : TabOk bb s.heap) (hm : m "strings" = some (.ref a)) (hcell : s.heap.IsCell (g.heap.objs.size + 2) (some (.str (S (c :: first)) tw))) (hl : s.heap.PlainList a items)
    (hv : SV items.toList ((c :: first) :: r)) (Gd : Good ((c :: first) :: r)) (hms : mu ((c :: first) :: r) ≤ n + 1) (hdw : ((c :: first) :: r).dropWhile (sameHd (c :: first)) ≠ [])
    (hpos : (pos.line == lamPos.line && pos.col == lamPos.col) = false)
    (fin : ∀ t s', Ext ([145] ++ frs (A.deeper (env13 pm g))) s s' → TabOk bb s'.heap → Q (.str (S (joined [124] [rx n (((c :: first) :: r).takeWhile (sameHd (c :: first))) [], rx n (((c :: first) :: r).dropWhile (sameHd (c :: first))) []])) t) s') :
    wpAny (model pw w) (A.deeper (env13 pm g)) (eval (.GeneratorExp (gElt p1 p2 p3 p4 p5 p6 p7 p8) [⟨.Name "group" px, .Call (.Name "groupby" q1) [.Name "strings" q2, .Lambda lamPars lamBody lamScope lamPos] [] q3, [], 0⟩] gScope pos) (env13 pm g))
      (fun v s' => wpAny (model pw w) (A.deeper (env13 pm g)) (call (.builtin "str.join") [.str (S [124]) tj, v]) Q E s') E s := by
  have hbig := W.big
  have U₁ : Up kmax (A.deeper (env13 pm g)) s.heap := U.deep F hbig rfl rfl
  have Ws := W.ext (small _) ok0 F.ext
  obtain ⟨nl, hal⟩ := hl
  have hD := ok0
  refine wpAny_GeneratorExp_make (cl := []) rfl rfl (by decide) rfl rfl (by have := C.dp; omega) (Call_ ?_) (by intro _; rfl)
  walk_at "nm"
  refine callW (K := KK w) (by kernel_rfl) (cons_args (ld F hm (cons_args (lam_make Ws T hcell fun lam s1 hlam X1 T1 L1 => nil_args ?_))))
  have W1 := Ws.ext (small _) (fun b hb => .inl (by simpa using hb)) X1
  have hal1 : s1.heap.get? a = some _ := X1.keep a _ (fun q => by
    obtain ⟨_, ps, hp, _⟩ := T
    rw [List.mem_singleton.mp q, hp] at hal; cases hal) hal
  refine ⟨W1.X, ?_⟩
  refine use (g_make (C.mono (by omega) (by omega)) W1 ⟨nl, hal1⟩) fun v s2 hp => ?_
  obtain ⟨⟨x, dx, it, t, t', rfl, hxs, hds, his, hx, hd, hit⟩, X2⟩ := hp
  have n145 : ∀ d, s.heap.objs.size ≤ d → d ≠ 145 := fun d h q => absurd (Nat.le_trans (Nat.le_trans hbig (Nat.le_of_lt F.ltL)) h) (by rw [q]; decide)
  have hs1 : s.heap.objs.size ≤ s1.heap.objs.size := Nat.le_of_not_lt fun q => by
    obtain ⟨o, ho⟩ : ∃ o, s1.heap.get? lam = some o := let ⟨_, _, _, _, e, _⟩ := L1; ⟨_, e⟩
    exact Nat.lt_irrefl _ (Nat.lt_of_lt_of_le (Heap.lt_size ho) (Nat.le_trans (Nat.le_of_lt q) hlam))
  have W2 := W1.ext (small _) ok0 X2
  have T2 := T1.step X2
  have F2 : Fs [145] g g.heap.objs.size m [] s2 := (((F.drop (news' := []) (List.nil_sublist _)).moreD (D' := [145]) (by simp)).call X1 id (fun d hd => .inl hd) (fun _ h => nomatch h)).step X2
  refine iter_own (F2.frIn W (small _) (fun b hb => .inl (by simpa using hb))) hx hd (fi := 75) rfl (by kernel_rfl) (gv := .ref 89) rfl (g_iter (C.mono (by omega) (by omega)) W2) fun s3 X3 => ?_
  have W3 := W2.ext (small _) ok0 X3
  have T3 := T2.step X3
  refine ⟨W3.lim, genCode W3 T3 rfl hpos fun code h4 tk4 T4 hk4 => ?_⟩
  have h145 : ∀ b o, s3.heap.get? b = some o → (∃ es ep, o.data = .dict es ep) → b ≠ 145 := fun b o e hd q => by
    obtain ⟨_, ps, hp, _⟩ := T3
    obtain ⟨es, ep, hd⟩ := hd
    rw [q, hp] at e; cases e; cases hd
  have X4 : Ext [145] s3 { s3 with heap := h4, toks := tk4 } := ⟨fun b o hb e => hk4 b o (by simpa using hb) e, rfl, fun _ _ e => e, id, fun b o e hd => ⟨o.slots, hk4 b o (h145 b o e hd) e⟩⟩
  have W4 := W3.ext (small _) (fun b hb => .inl (by simpa using hb)) X4
  obtain ⟨mg, ob, hmg, hb1, hb2, hb3, hb4, hb5⟩ := bi_at W4 T4.1
  refine wpAny_builtinsFor hmg hb1 (by decide) hb2 hb3 hb4 hb5 ?_
  have hx4 := X4.keep x _ (by simpa using n145 x (Nat.le_trans hs1 hxs)) (X3.keep x _ (by simp) hx)
  have hit4 := X4.keep it _ (by simpa using n145 it (Nat.le_trans hs1 his)) (X3.keep it _ (by simp) hit)
  have hd4 := (hd.soft X3).soft X4
  have L4 := ((L1.ext X2 (by simp) (by simp) NoCode.nil).ext X3 (by simp) (by simp) NoCode.nil).ext X4 (by simpa using n145 lam hlam) (fun q => by
    obtain ⟨oc, hoc, hocd⟩ := hcell
    obtain ⟨_, ps, hp, _⟩ := T
    rw [List.mem_singleton.mp q, hp] at hoc; cases hoc; cases hocd) (NoCode.tab T3)
  have X14 : Ext [145] s { s3 with heap := h4, toks := tk4 } := (X1.trans ((X2.trans X3).mono (by simp))).trans X4
  have hl4 : lam < ({ s3 with heap := h4, toks := tk4 } : Shared).heap.objs.size := let ⟨_, _, _, _, e, _⟩ := L4; Heap.lt_size e
  clear X1 X2 X3 X4 W1 W2 W3 T1 T2 T3 L1 hk4 hx hit hd F2 h145 hb1 hmg hb2
  replace T4 : TabOk bb ({ s3 with heap := h4, toks := tk4 } : Shared).heap := T4
  generalize ({ s3 with heap := h4, toks := tk4 } : Shared) = s4 at *
  intro h5 hn5 hs5
  have hz5 : h5.objs.size = s4.heap.objs.size + 1 := by rw [hs5.1, Heap.size_push]
  have kp5 : ∀ b o, s4.heap.get? b = some o → h5.get? b = some o := fun b o e => hs5.extBut b o (Nat.ne_of_lt (Heap.lt_size e)) (Heap.get?_push_of_some _ e)
  have hogn : ∀ (n1 n2 : Str) (k1 k2 : Tok) (h : Heap), h.get? h5.objs.size = some { cls := .type "generator", data := .fields #[.int s4.gens.size 0, .str n1 k1, .str n2 k2] } → h.IsGen h5.objs.size s4.gens.size := fun n1 n2 k1 k2 h e => ⟨_, _, _, e, rfl, rfl, rfl⟩
  have hx5 := kp5 _ _ hx4
  have hog5 := Heap.get?_push_size (o := ({ cls := .type "generator", data := .fields #[.int s4.gens.size 0, .str "<genexpr>" (s4.toks + 1), .str ((env13 pm g).qual ++ "<genexpr>") (s4.toks + 1 + 1)] } : Obj)) h5 rfl
  have hogn5 := hogn "<genexpr>" ((env13 pm g).qual ++ "<genexpr>") (s4.toks + 1) (s4.toks + 1 + 1)
  have X5 : Ext [] s4 { s4 with
            gens := s4.gens.push (.fresh (genStart (gElt p1 p2 p3 p4 p5 p6 p7 p8) (.Call (.Name "groupby" q1) [.Name "strings" q2, .Lambda lamPars lamBody lamScope lamPos] [] q3) "group" px gScope pos x (gEnv pm g s4.heap.objs.size code))),
            toks := s4.toks + 1 + 1 + 1,
            heap := h5.push { cls := .type "generator", data := .fields #[.int s4.gens.size 0, .str "<genexpr>" (s4.toks + 1), .str ((env13 pm g).qual ++ "<genexpr>") (s4.toks + 1 + 1)] } } :=
    ⟨fun b o _ e => Heap.get?_push_of_some _ (kp5 b o e), rfl, fun i y e => by
      have hlt := (Array.getElem?_eq_some_iff.mp e).1
      show (s4.gens.push _)[i]? = some y
      rw [Array.getElem?_push, if_neg (Nat.ne_of_lt hlt)]; exact e, fun hb => hb.push rfl, fun b o e _ => ⟨o.slots, Heap.get?_push_of_some _ (kp5 b o e)⟩⟩
  have hgen5 : (s4.gens.push (.fresh (genStart (gElt p1 p2 p3 p4 p5 p6 p7 p8) (.Call (.Name "groupby" q1) [.Name "strings" q2, .Lambda lamPars lamBody lamScope lamPos] [] q3) "group" px gScope pos x (gEnv pm g s4.heap.objs.size code))))[s4.gens.size]? = some (.fresh (genStart (gElt p1 p2 p3 p4 p5 p6 p7 p8) (.Call (.Name "groupby" q1) [.Name "strings" q2, .Lambda lamPars lamBody lamScope lamPos] [] q3) "group" px gScope pos x (gEnv pm g s4.heap.objs.size code))) := Array.getElem?_push_size ..
  have hns5 := hn5.push { cls := .type "generator", data := .fields #[.int s4.gens.size 0, .str "<genexpr>" (s4.toks + 1), .str ((env13 pm g).qual ++ "<genexpr>") (s4.toks + 1 + 1)] }
  have T5 := T4.step X5
  generalize ({ cls := .type "generator", data := .fields #[.int s4.gens.size 0, .str "<genexpr>" (s4.toks + 1), .str ((env13 pm g).qual ++ "<genexpr>") (s4.toks + 1 + 1)] } : Obj) = og at *
  generalize hs5e : ({ s4 with
            gens := s4.gens.push (.fresh (genStart (gElt p1 p2 p3 p4 p5 p6 p7 p8) (.Call (.Name "groupby" q1) [.Name "strings" q2, .Lambda lamPars lamBody lamScope lamPos] [] q3) "group" px gScope pos x (gEnv pm g s4.heap.objs.size code))),
            toks := s4.toks + 1 + 1 + 1,
            heap := h5.push og } : Shared) = s5 at *
  replace hog5 : s5.heap.get? h5.objs.size = some og := by rw [← hs5e]; exact hog5
  replace hgen5 : s5.gens[s4.gens.size]? = some (.fresh (genStart (gElt p1 p2 p3 p4 p5 p6 p7 p8) (.Call (.Name "groupby" q1) [.Name "strings" q2, .Lambda lamPars lamBody lamScope lamPos] [] q3) "group" px gScope pos x (gEnv pm g s4.heap.objs.size code))) := by rw [← hs5e]; exact hgen5
  replace hns5 : s5.heap.Ns s4.heap.objs.size (fun y => if y = ".0" then some (.ref x) else none) := by rw [← hs5e]; exact hns5
  have L5 := L4.ext X5 (by simp) (by simp) NoCode.nil
  have hx5 := X5.keep x _ (by simp) hx4
  have hit5 := X5.keep it _ (by simp) hit4
  have hd5 := hd4.soft X5
  have hxl := Heap.lt_size hx4
  have hitl := Heap.lt_size hit4
  have hgi : s.gens.size ≤ s4.gens.size := Nat.le_of_not_lt fun q => by
    have h1 := (Array.getElem?_eq_some_iff.mp (X14.gens (s4.gens.size) _ (Array.getElem?_eq_getElem q))).1
    exact Nat.lt_irrefl _ h1
  have hs4 : s.heap.objs.size ≤ s4.heap.objs.size := Nat.le_of_lt (Nat.lt_of_le_of_lt hlam hl4)
  clear hs5e hn5 hs5 kp5 hogn hx4 hit4 hd4 L4 T4 W4
  generalize h5.objs.size = gA at *
  generalize s4.heap.objs.size = C0 at *
  generalize s4.gens.size = gi at *
  refine join_feed (k := 3) (hogn5 s5.heap hog5) (Src.gen (hogn5 _ hog5)) fun B R s6 c0 hB X6 hb6 hok => ?_
  have hBg : gA < B := Nat.lt_of_lt_of_le (Heap.lt_size hog5) hB
  have L6 := L5.ext X6 (by simp) (by simp) NoCode.nil
  have hx6 := X6.keep x _ (by simp) hx5
  have hit6 := X6.keep it _ (by simp) hit5
  have hd6 := hd5.soft X6
  have T6 := T5.step X6
  have hns6 : s6.heap.Ns C0 (fun y => if y = ".0" then some (.ref x) else none) := hns5.keeps fun b o e => X6.keep b o (by simp) e
  obtain ⟨pml, cdl, ctl, tl, hl6, hl7, hl8⟩ := id L6
  have hlx : lam ≠ x := fun q => by rw [q, hx6] at hl6; exact nomatch (congrArg Obj.data (Option.some.inj hl6))
  have hlit : lam ≠ it := fun q => by rw [q, hit6] at hl6; exact nomatch (congrArg Obj.data (Option.some.inj hl6))
  have hxit : x ≠ it := fun q => by rw [q, hit6] at hx6; exact nomatch (congrArg Obj.data (Option.some.inj hx6))
  have X16 : Ext ([145] ++ frs (A.deeper (env13 pm g))) s s6 := (X14.trans ((X5.trans X6).mono (by simp))).mono (fun d hd => List.mem_append_left _ hd)
  have hxs' := Nat.le_trans hs1 hxs
  have his' := Nat.le_trans hs1 his
  have hled : ∀ d ∈ [x, it, gA, lam, B], s.heap.objs.size ≤ d := fun d hd => by
    simp only [List.mem_cons, List.not_mem_nil, or_false] at hd
    rcases hd with rfl | rfl | rfl | rfl | rfl <;> first | assumption | omega
  have F6 : Fs ([145] ++ frs (A.deeper (env13 pm g))) s C0 (fun y => if y = ".0" then some (.ref x) else none) (gLed x it gA lam B (slO 93 dx (gbS (.int 0 t) .none .none (.bool false) (.bool false) (.bool false) (.ref it) (.ref lam) (.int 0 t') .none)) (liO a 0) og { cls := .type "function", data := .func (lamFd (g.heap.objs.size + 2) pml cdl ctl) } (lsO #[] c0)) s6 :=
    ⟨X16, ⟨_, hns6, fun _ _ e => e⟩, hs4, AllAt.mem _ ⟨hx6, hit6, X6.keep gA _ (by simp) hog5, hl6, hb6, trivial⟩, fun p hp => .inr (hled p.1 (List.mem_map_of_mem (f := (·.1)) hp)), by
      simp only [gLed, List.map_cons, List.map_nil, List.nodup_cons, List.mem_cons, List.not_mem_nil, or_false, not_or]
      have hC : C0 < gA := by rw [hz5]; exact Nat.lt_succ_self _
      have hCB := Nat.lt_trans hC hBg
      exact ⟨⟨Nat.ne_of_gt hxl, Nat.ne_of_gt hitl, Nat.ne_of_lt hC, Nat.ne_of_gt hl4, Nat.ne_of_lt hCB⟩, ⟨hxit, Nat.ne_of_lt (Nat.lt_trans hxl hC), Ne.symm hlx, Nat.ne_of_lt (Nat.lt_trans hxl hCB)⟩, ⟨Nat.ne_of_lt (Nat.lt_trans hitl hC), Ne.symm hlit, Nat.ne_of_lt (Nat.lt_trans hitl hCB)⟩,
        ⟨Nat.ne_of_gt (Nat.lt_trans hl4 hC), Nat.ne_of_lt hBg⟩, Nat.ne_of_lt (Nat.lt_trans hl4 hCB), fun q => q, List.nodup_nil⟩⟩
  have haD : a ∉ [145] ++ frs (A.deeper (env13 pm g)) := fun q => by
    rcases List.mem_append.mp q with h | h
    · obtain ⟨_, ps, hp, _⟩ := T
      rw [List.mem_singleton.mp h, hp] at hal
      exact nomatch (congrArg Obj.data (Option.some.inj hal))
    · exact U₁.notD hal (fun _ _ q => nomatch q) h
  refine group_feed ih (C.mono (by omega) (by omega)) U₁ Ws rfl F6 ⟨T6, L6, hd6, gens_lt X6 (Array.getElem?_eq_some_iff.mp hgen5).1⟩ ⟨nl, hal⟩ haD ⟨_, rfl⟩ hogn5 (Nat.le_trans hbig (Nat.le_of_lt F.ltL)) hled hgi (X6.gens _ _ hgen5) hv Gd hms hdw fun s' acc c' hB' hsv X T' => hok s' acc c' hB' ⟨_, hsv, ?_, fun t'' k => fin t'' _ (X.trans ((Ext.heap (s := s') (h' := s'.heap) (tk := k) fun b o _ e => e).mono (by simp))) T'⟩
  · have h1 := rx_le (n := n) (op := []) (Gd.sub (List.takeWhile_sublist (sameHd (c :: first))))
    have h2 := rx_le (n := n) (op := []) (Gd.sub (List.dropWhile_sublist (sameHd (c :: first))))
    simp only [List.map_cons, List.map_nil, List.sum_cons, List.sum_nil, List.length_cons, List.length_nil] at h1 h2 ⊢
    omega
theorem inner11 {w : World} {n : Nat} (ih : InnerAt bb w n) {A : Around} {E : Value → Shared → Prop} {g s : Shared} {pm : Value} (C : Cx (A.deeper (env13 pm g)) (6 * n + 25) (40 * n + 337)) (W : Wo (KK w) g.heap) (U : Up kmax A g.heap) (T : TabOk bb g.heap) {a : Addr} {items : Array Value} {w1 w2 : List Nat} {ws : List (List Nat)} {op : List Nat} {tO t1 tw : Tok}
    (hl : g.heap.PlainList a items) (hv : SV items.toList (w1 :: w2 :: ws)) (G : Good (w1 :: w2 :: ws)) (hm : mu (w1 :: w2 :: ws) ≤ n + 1) (hopl : op.length ≤ 3) (hw0 : w1 ≠ []) (hns : ¬ (w1.length = 1 ∧ 1 < (ones (w1 :: w2 :: ws)).length)) (hcp : cpL (w1 :: w2 :: ws) = []) (hcs : cpL ((w1 :: w2 :: ws).map List.reverse) = [])
    (F : Fs [] g g.heap.objs.size (lk [("close_paren", .str (S (clo op)) t1), ("strings", .ref a), ("open_paren", .str (S op) tO)]) (cells13 g.heap.objs.size none (some (.str (S w1) tw)) none) s) :
    wpAny (model pw w) (A.deeper (env13 pm g)) (execs ((bodyI 13).drop 11) (env13 pm g)) (fun fl s' => Ret (InnerPost bb A g (rx (n + 1) (w1 :: w2 :: ws) op)) (.ok (.ret (retOf fl))) s') E s := by
  have hbig := W.big
  have hcl := clo_len op
  have hD : okD tabP kmax [] := ok0
  obtain ⟨c, first, rfl⟩ : ∃ c r, w1 = c :: r := by cases w1 with | nil => exact absurd rfl hw0 | cons c r => exact ⟨c, r, rfl⟩
  obtain ⟨nl, hl⟩ := hl
  have hdw := drop_ne (w := c :: first) (r := w2 :: ws) (by simp) hcp
  show wpAny _ _ (execs (_ :: _) _) _ _ _
  walk_at "go"
  rw [lit_bar]
  refine wpAny_mono (Q := fun v s' => wpAny (model pw w) (A.deeper (env13 pm g)) (call (.builtin "str.join") [.str (S [124]) t, v]) _ _ s') ?_ (fun v s' h => nil_args h) (fun _ _ e => e)
  refine join_groups ih C W U F (T.step F.ext) rfl (F.get (x := .cell _) (.tail _ (.head _))) ⟨nl, F.old (by simp) hl⟩ hv G hm hdw (by decide) fun t2 s2 X2 T2 => ?_
  replace F := (F.moreD (D' := [145]) (by simp)).after U (by decide) hbig rfl X2 (fun d hd => .inl hd) id (new145 hbig (new13 _ _ _))
  have hD : okD tabP kmax ([145] ++ frs A) := okDf (fun b hb => .inl (by simpa using hb)) U
  have h1 := rx_le (n := n) (op := []) (G.sub (List.takeWhile_sublist (sameHd (c :: first))))
  have h2 := rx_le (n := n) (op := []) (G.sub (List.dropWhile_sublist (sameHd (c :: first))))
  have hj : (joined [124] [rx n (List.takeWhile (sameHd (c :: first)) ((c :: first) :: w2 :: ws)) [], rx n (List.dropWhile (sameHd (c :: first)) ((c :: first) :: w2 :: ws)) []]).length ≤ 130000 := by
    simp only [joined, List.length_append, List.length_cons, List.length_nil] at h1 h2 ⊢
    omega
  refine addP F T2 (by omega) ?_
  clear F T2; intro t3 s F T'
  walk_at "nm"
  refine addP F T' (by rw [List.length_append]; omega) ?_
  clear F T'; intro t4 s F T'
  exact ⟨_, rfl, ⟨t4, by rw [rx, if_neg hw0, if_neg hns, if_neg (by rw [hcp]; simp), if_neg (by rw [hcs]; simp)]; rfl⟩, T', F.ext⟩

theorem inner8 {w : World} {n : Nat} (ih : InnerAt bb w n) {A : Around} {E : Value → Shared → Prop} {g s : Shared} {pm : Value} (C : Cx (A.deeper (env13 pm g)) (6 * n + 25) (40 * n + 337)) (W : Wo (KK w) g.heap) (U : Up kmax A g.heap) (T : TabOk bb g.heap) {a : Addr} {items : Array Value} {w1 w2 : List Nat} {ws : List (List Nat)} {op : List Nat} {tO t1 tw : Tok}
    (hl : g.heap.PlainList a items) (hv : SV items.toList (w1 :: w2 :: ws)) (G : Good (w1 :: w2 :: ws)) (hm : mu (w1 :: w2 :: ws) ≤ n + 1) (hopl : op.length ≤ 3) (hw0 : w1 ≠ []) (hns : ¬ (w1.length = 1 ∧ 1 < (ones (w1 :: w2 :: ws)).length)) (hcp : cpL (w1 :: w2 :: ws) = [])
    (F : Fs [] g g.heap.objs.size (lk [("close_paren", .str (S (clo op)) t1), ("strings", .ref a), ("open_paren", .str (S op) tO)]) (cells13 g.heap.objs.size none (some (.str (S w1) tw)) none) s) :
    wpAny (model pw w) (A.deeper (env13 pm g)) (execs ((bodyI 13).drop 8) (env13 pm g)) (fun fl s' => Ret (InnerPost bb A g (rx (n + 1) (w1 :: w2 :: ws) op)) (.ok (.ret (retOf fl))) s') E s := by
  have hD : okD tabP kmax [] := ok0
  have hbig := W.big
  have hzi : items.size = (w1 :: w2 :: ws).length := by rw [← Array.length_toList]; exact hv.len
  have hlen := G.len
  have hcl := clo_len op
  have hne : w1 :: w2 :: ws ≠ [] := by simp
  have hner : (w1 :: w2 :: ws).map List.reverse ≠ [] := by simp
  obtain ⟨nl, hl⟩ := hl
  show wpAny _ _ (execs (_ :: _) _) _ _ _
  refine wpAny_execs_cons ?_
  refine comp_assign F [] rfl rfl (by decide) rfl (by decide) rfl rfl rfl rfl ?_
  walk_at "go"
  refine compSL F C.hh List.reverse (seqObj "list" items nl) (fun C' mC pre s' F' => F'.old (by simp) hl) ⟨nl, F.old (by simp) hl⟩ hv (by omega) (fun x tx pre C' s E' hx F => ?_) (fun acc ys s hys F => ?_)
  · exact rev_eval (ld F rfl ⟨x, tx, rfl, Nat.le_trans (G.sz x hx) (by decide), fun t' s' X => ⟨⟨t', rfl⟩, F.step X⟩⟩)
  have hac : g.heap.objs.size ≤ acc := (F.own (acc, .list ys.toArray) (.head _)).elim (fun h => nomatch h.1) id
  clear F; intro s F
  walk_at "go"
  refine use (cp_spec (C.mono (by omega) (by omega)) (W.ext (small _) ok0 F.ext) (F.get (x := .list ys.toArray) (.head _)) (show SV ys.toArray.toList ((w1 :: w2 :: ws).map List.reverse) from hys) (fun x hx => by
    obtain ⟨v, hv', rfl⟩ := List.mem_map.mp hx
    rw [List.length_reverse]
    exact Nat.le_trans (G.sz v hv') (by decide)) (by rw [List.length_map]; omega)) fun r s' hr => ?_
  obtain ⟨⟨q, tq, rfl, _, hq⟩, X'⟩ := hr
  replace F := F.step X'
  have hq := (hq hner).eq hner
  have hql : q.length ≤ 200 := by
    rw [hq]
    have h1 := (suf_pre hne w1.reverse (List.mem_map_of_mem (.head _))).length_le
    rw [List.length_reverse] at h1
    exact Nat.le_trans h1 (G.sz w1 (.head _))
  walk_at "go"
  refine truS F (by omega) ?_
  clear F; intro s F
  split
  · rename_i h1
    have hq0 : cpL ((w1 :: w2 :: ws).map List.reverse) ≠ [] := by rw [← hq]; intro z; rw [z] at h1; cases h1
    have hms := meas_suf hne
    rw [← hq] at hms
    have hq1 : 0 < q.length := by rw [hq]; exact List.length_pos_iff.mpr hq0
    have hmul : q.length * 2 ≤ q.length * (w1 :: w2 :: ws).length := Nat.mul_le_mul_left _ (by simp)
    have Gs := G.cutE (q := q) fun v hv' => hq ▸ suf_pre hne v hv'
    walk_at "go"
    refine lenS F (by omega) ?_
    clear F; intro tk s F
    refine stC (v := .int q.length tk) [(acc, _)] _ F rfl rfl ?_
    clear F; intro s F
    walk_at "go"
    refine wpAny_mono (Q := fun v s' => wpAny (model pw w) (A.deeper (env13 pm g)) (call (.builtin "sorted") [v]) _ _ s') ?_ (fun v s' h => nil_args h) (fun _ _ e => e)
    refine sorted_cut (k := q.length) (ws := w1 :: w2 :: ws) (C.mono (by omega) (by omega)) W F (T.step F.ext) rfl (F.get (x := .cell _) (.tail _ (.head _))) ⟨nl, F.old (by simp) hl⟩ hv hq1 (by omega) G.sz (by decide) fun c ys2 ts s2 e h2 h3 h4 X2 T2 hc hs2 => ?_
    have hts : ts = isort (cutE q.length (w1 :: w2 :: ws)) := sort_eq h3 h4
    subst hts
    have hnew : ∀ p ∈ (acc, Sh.list ys.toArray) :: cells13 g.heap.objs.size (some (.int q.length tk)) (some (.str (S w1) tw)) none, g.heap.objs.size ≤ p.1 := fun p hp => by
      rcases List.mem_cons.mp hp with rfl | hp
      · exact hac
      · exact new13 _ _ _ p hp
    have F145 := F.moreD (D' := [145]) (by simp)
    have F2 := F145.add (F145.call X2 id (fun d hd => .inl hd) (new145 hbig hnew)) hc (x := .list ys2.toArray) ⟨e, hs2⟩
    have hLs := F.ltL
    clear F F145
    have hD : okD tabP kmax [145] := fun b hb => .inl (by simpa using hb)
    refine cons_args (cSP F2 T2 (S_of _) ?_)
    clear F2 T2; intro t3 s F T'
    refine nil_args ⟨(W.ext (small _) hD F.ext).X, ?_⟩
    refine inner_again ih F (C.mono (by omega) (by omega)) W U rfl rfl rfl T' (F.get (x := .list _) (.head _)) (by simpa using h2) Gs (by rw [hq]; exact mu_sf hm hne hcp hq0) (.inr (.inr lit_nc)) ?_ ?_
    · intro p hp
      rcases List.mem_cons.mp hp with rfl | hp
      · exact Nat.le_trans (Nat.le_of_lt hLs) hc
      · exact hnew p hp
    clear F T'; intro t4 s F T'
    rw [lit_nc]
    have hrl := rx_le (n := n) (op := nc) Gs
    have hn3 : nc.length = 3 := rfl
    refine addP F T' (by omega) ?_
    clear F T'; intro t5 s F T'
    have hD : okD tabP kmax ([145] ++ frs A) := okDf hD U
    refine Call_ ?_
    walk_at "nm"
    refine callW (K := KK w) (by kernel_rfl) (cons_args (rev_eval (ld F rfl ⟨q, tq, rfl, by omega, fun t6 s6 X6 => ?_⟩)))
    replace F := F.step X6
    replace T' := T'.step X6
    refine nil_args ⟨(W.ext (small _) hD F.ext).X, ?_⟩
    have hel := esc_len q.reverse
    rw [List.length_reverse] at hel
    refine use (escape_spec (C.mono (by omega) (by omega)) (W.ext (small _) hD F.ext) (by rw [List.length_reverse]; omega)) fun r s' hr => ?_
    obtain ⟨⟨te, rfl⟩, X7⟩ := hr
    replace F := F.step X7
    replace T' := T'.step X7
    refine addP F T' (by rw [List.length_append]; omega) ?_
    clear F T'; intro t7 s F T'
    walk_at "nm"
    refine addP F T' (by rw [List.length_append, List.length_append]; omega) ?_
    clear F T'; intro t8 s F T'
    exact ⟨_, rfl, ⟨t8, by rw [rx, if_neg hw0, if_neg hns, if_neg (by rw [hcp]; simp), if_pos hq0, ← hq]; rfl⟩, T', F.ext⟩
  · rename_i h1
    have hq0 : cpL ((w1 :: w2 :: ws).map List.reverse) = [] := by rw [← hq]; cases q with | nil => rfl | cons => exact absurd rfl h1
    walk_at "m"
    exact inner11 ih C W U T ⟨nl, hl⟩ hv G hm hopl hw0 hns hcp hq0 ((F.drop (List.sublist_cons_self _ _)).as _ ⟨rfl, rfl, rfl, trivial⟩)

theorem clos_plen (pm : Value) (g : Shared) : closureFor { kind := .function, names := [(".0", .local), ("s", .local), ("plen", .free)], isGenerator := false, isCoroutine := false } (env13 pm g) = (pure [(("plen" : Str), g.heap.objs.size + 1)] : Sem (List (Str × Addr))) := rfl
theorem inner6 {w : World} {n : Nat} (ih : InnerAt bb w n) {A : Around} {E : Value → Shared → Prop} {g s : Shared} {pm : Value} (C : Cx (A.deeper (env13 pm g)) (6 * n + 25) (40 * n + 337)) (W : Wo (KK w) g.heap) (U : Up kmax A g.heap) (T : TabOk bb g.heap) {a : Addr} {items : Array Value} {w1 w2 : List Nat} {ws : List (List Nat)} {op : List Nat} {tO t1 tw : Tok}
    (hl : g.heap.PlainList a items) (hv : SV items.toList (w1 :: w2 :: ws)) (G : Good (w1 :: w2 :: ws)) (hm : mu (w1 :: w2 :: ws) ≤ n + 1) (hopl : op.length ≤ 3) (hw0 : w1 ≠ []) (hns : ¬ (w1.length = 1 ∧ 1 < (ones (w1 :: w2 :: ws)).length))
    (F : Fs [] g g.heap.objs.size (lk [("close_paren", .str (S (clo op)) t1), ("strings", .ref a), ("open_paren", .str (S op) tO)]) (cells13 g.heap.objs.size none (some (.str (S w1) tw)) none) s) :
    wpAny (model pw w) (A.deeper (env13 pm g)) (execs ((bodyI 13).drop 6) (env13 pm g)) (fun fl s' => Ret (InnerPost bb A g (rx (n + 1) (w1 :: w2 :: ws) op)) (.ok (.ret (retOf fl))) s') E s := by
  have hD : okD tabP kmax [] := ok0
  have hbig := W.big
  have hzi : items.size = (w1 :: w2 :: ws).length := by rw [← Array.length_toList]; exact hv.len
  have hlen := G.len
  have hcl := clo_len op
  have hne : w1 :: w2 :: ws ≠ [] := by simp
  obtain ⟨nl, hl⟩ := hl
  show wpAny _ _ (execs (_ :: _) _) _ _ _
  walk_at "go"
  refine use (cp_spec (C.mono (by omega) (by omega)) (W.ext (small _) ok0 F.ext) ⟨nl, F.old (by simp) hl⟩ hv (fun x hx => Nat.le_trans (G.sz x hx) (by decide)) (by omega)) fun r s' hr => ?_
  obtain ⟨⟨p, tp, rfl, _, hp⟩, X'⟩ := hr
  replace F := F.step X'
  have hp := (hp hne).eq hne
  have hpl : p.length ≤ 200 := by
    rw [hp]
    exact Nat.le_trans (cp_pre hne w1 (.head _)).length_le (G.sz w1 (.head _))
  walk_at "go"
  refine truS F (by omega) ?_
  clear F; intro s F
  split
  · rename_i h1
    have hp0 : cpL (w1 :: w2 :: ws) ≠ [] := by rw [← hp]; intro q; rw [q] at h1; cases h1
    have hms := meas_pre hne
    rw [← hp] at hms
    have hp1 : 0 < p.length := by rw [hp]; exact List.length_pos_iff.mpr hp0
    have hmul : p.length * 2 ≤ p.length * (w1 :: w2 :: ws).length := Nat.mul_le_mul_left _ (by simp)
    walk_at "go"
    refine lenS F (by omega) ?_
    clear F; intro tk s F
    refine stC (v := .int p.length tk) [(g.heap.objs.size + 3, .cell none), (g.heap.objs.size + 2, .cell _)] _ F rfl rfl ?_
    clear F; intro s F
    walk_at "go"
    refine use (escape_spec (C.mono (by omega) (by omega)) (W.ext (small _) ok0 F.ext) (by omega)) fun r s' hr => ?_
    obtain ⟨⟨te, rfl⟩, X'⟩ := hr
    replace F := F.step X'
    have hel := esc_len p
    refine addS F (by omega) ?_
    clear F; intro t2 s F
    walk_at "go"
    refine comp_eval F [("plen", g.heap.objs.size + 1)] (clos_plen pm g) (by decide) rfl (by decide) rfl ?_
    walk_at "go"
    refine compSL F C.hh (fun x => x.drop p.length) (seqObj "list" items nl) (fun C' mC pre s' F' => F'.old (by simp) hl) ⟨nl, F.old (by simp) hl⟩ hv (by omega) (fun x tx pre C' s E' hx F => ?_) (fun acc ys s hys F => ?_)
    · refine subS F ?_
      refine ld F rfl ?_
      walk_at "m"
      refine ldC F (List.mem_append_right _ (.tail _ (.tail _ (.head _)))) rfl ?_
      walk_at "m"
      refine ⟨x, tx, some (p.length : Int), none, _, _, rfl, .int _ _, .none, F, Nat.le_trans (G.sz x hx) (by decide), fun t' s' F' => ?_⟩
      exact ⟨⟨t', by rw [sl_from]⟩, F'⟩
    · walk_at "go"
      have hLs := F.lt (p := (acc, .list ys.toArray)) (.head _)
      refine inner_again ih (F.moreD (by simp)) (C.mono (by omega) (by omega)) W U rfl rfl rfl (T.step F.ext) (F.get (x := .list _) (.head _)) (show SV ys (cut p.length (w1 :: w2 :: ws)) from hys) (G.cut (p := p) fun v hv' => hp ▸ cp_pre hne v hv') (by show mu (cut p.length (w1 :: w2 :: ws)) ≤ n; rw [hp]; exact mu_cp hm hne hp0) (.inr (.inr lit_nc)) ?_ ?_
      · intro q hq
        rcases List.mem_cons.mp hq with rfl | hq
        · exact (F.own (acc, .list ys.toArray) (.head _)).elim (fun h => nomatch h.1) id
        · exact new13 _ _ _ q hq
      clear F; intro t3 s F T'
      rw [lit_nc]
      have hrl := rx_le (n := n) (op := nc) (G.cut (p := p) fun v hv' => hp ▸ cp_pre hne v hv')
      have hn3 : nc.length = 3 := rfl
      refine addP F T' (by show _ + (rx n (cut p.length (w1 :: w2 :: ws)) nc).length ≤ _; rw [List.length_append]; omega) ?_
      clear F T'; intro t4 s F T'
      walk_at "nm"
      refine addP F T' (by show ((_ ++ _) ++ rx n (cut p.length (w1 :: w2 :: ws)) nc).length + _ ≤ _; rw [List.length_append, List.length_append]; omega) ?_
      clear F T'; intro t5 s F T'
      exact ⟨_, rfl, ⟨t5, by rw [rx, if_neg hw0, if_neg hns, if_pos hp0, ← hp]; rfl⟩, T', F.ext⟩
  · rename_i h1
    have hp0 : cpL (w1 :: w2 :: ws) = [] := by rw [← hp]; cases p with | nil => rfl | cons => exact absurd rfl h1
    walk_at "m"
    exact inner8 ih C W U T ⟨nl, hl⟩ hv G hm hopl hw0 hns hp0 (F.as _ ⟨rfl, rfl, rfl, trivial⟩)

theorem inner_step (w : World) (n : Nat) (ih : InnerAt bb w n) : InnerAt bb w (n + 1) := by
  intro A g a items ws op t C W U T hl hv G hm hop
  obtain ⟨pm, hk⟩ := k_inner w
  refine callKC (d := 6 * n + 25) (u := 40 * n + 337) (C.mono (by omega) (by omega)) W hk (by kernel_rfl) rfl rfl rfl rfl (fun n p hp => ?_) rfl rfl rfl fun s C X F => ?_
  · have hp : p ∈ [(("slen" : Str), n + 2), ("first", n + 1), ("plen", n)] := hp
    simp at hp
    rcases hp with rfl | rfl | rfl <;> rfl
  replace F : Fs [] g g.heap.objs.size _ [(g.heap.objs.size + 3, .cell none), (g.heap.objs.size + 2, .cell none), (g.heap.objs.size + 1, .cell none)] s := F
  replace F := F.as [("strings", .ref a), ("open_paren", .str (S op) t)] ⟨rfl, rfl, trivial⟩
  have hD : okD tabP kmax [] := ok0
  have hbig := W.big
  have hopl : op.length ≤ 3 := by rcases hop with rfl | rfl | rfl <;> decide
  have hzi : items.size = ws.length := by rw [← Array.length_toList]; exact hv.len
  have hlen := G.len
  obtain ⟨nl, hl⟩ := hl
  show wpAny _ _ (execs (_ :: _) _) _ _ _
  refine wpAny_execs_cons (wpAny_mono (Q := fun f s' => f = Flow.next ∧ ∃ t', Fs [] g g.heap.objs.size (lk [("close_paren", .str (S (clo op)) t'), ("strings", .ref a), ("open_paren", .str (S op) t)]) [(g.heap.objs.size + 3, .cell none), (g.heap.objs.size + 2, .cell none), (g.heap.objs.size + 1, .cell none)] s') (E := fun _ _ => False) ?_ ?_ (fun _ _ h => h.elim))
  · walk_at "go"
    refine truS F (by omega) ?_
    clear F; intro s F
    cases op with
    | nil =>
      rw [if_neg (by decide)]
      refine truS F (by decide) ?_
      clear F; intro s F
      rw [if_neg (by decide)]
      walk_at "go"
      exact ⟨rfl, _, F.as _ ⟨by show some _ = _; rw [show (Str.ofString "").cps.toList = clo [] from by decide +kernel], rfl, rfl, trivial⟩⟩
    | cons c r =>
      rw [if_pos (show (!(c :: r).isEmpty) = true from rfl)]
      walk_at "go"
      refine truS F (by decide) ?_
      clear F; intro s F
      rw [if_pos (by decide +kernel)]
      walk_at "go"
      exact ⟨rfl, _, F.as _ ⟨by show some _ = _; rw [lit_rp]; rfl, rfl, rfl, trivial⟩⟩
  rintro f s ⟨rfl, t1, F⟩
  walk_at "go"
  refine truL F (items := items) (Heap.PlainList.isList ⟨nl, F.old (by simp) hl⟩) (by omega) ?_
  clear F; intro s F
  rcases ws with _ | ⟨w1, ws⟩
  · have hi0 : items = #[] := Array.eq_empty_of_size_eq_zero hzi
    subst hi0
    rw [if_pos (by decide)]
    walk_at "go"
    exact ⟨_, rfl, ⟨_, by show Value.str (S (Str.ofString "").cps.toList) _ = _; rw [show (Str.ofString "").cps.toList = rx (n + 1) [] op from lit_nil]⟩, T.step F.ext, F.ext.mono (by simp)⟩
  rw [if_neg (by have : items.size ≠ 0 := by rw [hzi]; simp
                 simpa using this)]
  walk_at "go"
  obtain ⟨tw, hiw⟩ := hv.at (i := 0) (a := w1) rfl
  refine itemL F (items := items) (x := .str (S w1) tw) (Heap.PlainList.isList ⟨nl, F.old (by simp) hl⟩) (by decide) (by omega) (by simpa using hiw) ?_
  refine stC (v := .str (S w1) tw) [(g.heap.objs.size + 3, .cell none)] _ F rfl rfl ?_
  clear F; intro s F
  walk_at "go"
  refine lenL F (items := items) (Heap.PlainList.isList ⟨nl, F.old (by simp) hl⟩) (by omega) ?_
  clear F; intro tl s F
  walk_at "go"
  have hcl : (clo op).length ≤ 1 := by unfold clo; split <;> simp
  have hw1 := G.sz w1 (.head _)
  have hnew3 : ∀ (v1 v2 v3 : Option Value) (p : Addr × Sh), p ∈ [(g.heap.objs.size + 3, Sh.cell v1), (g.heap.objs.size + 2, .cell v2), (g.heap.objs.size + 1, .cell v3)] → g.heap.objs.size ≤ p.1 := fun v1 v2 v3 p hp => by
    simp at hp
    rcases hp with rfl | rfl | rfl <;> exact Nat.le_add_right _ _
  split
  · rename_i h1
    have hz1 : items.size = 1 := by have h : (items.size : Int) = 1 := by simpa using h1
                                    omega
    have hws : ws = [] := by rw [hzi] at hz1; simpa using hz1
    subst hws
    walk_at "go"
    refine use (escape_spec (C.mono (by omega) (by omega)) (W.ext (small _) ok0 F.ext) (by omega)) fun r s' hr => ?_
    obtain ⟨⟨te, rfl⟩, X'⟩ := hr
    replace F := F.step X'
    have hel := esc_len w1
    refine addS F (by omega) ?_
    clear F; intro t2 s F
    walk_at "go"
    refine addS F (by rw [List.length_append]; omega) ?_
    clear F; intro t3 s F
    exact ⟨_, rfl, ⟨_, rfl⟩, T.step F.ext, F.ext.mono (by simp)⟩
  rename_i h1
  obtain ⟨w2, ws, rfl⟩ : ∃ w2 r, ws = w2 :: r := by
    cases ws with
    | nil => exact absurd (by rw [hzi]; rfl) h1
    | cons w2 r => exact ⟨w2, r, rfl⟩
  walk_at "go"
  refine truS F (by omega) ?_
  clear F; intro s F
  split
  · rename_i h2
    have hw0 : w1 = [] := by cases w1 with | nil => rfl | cons => simp at h2
    subst hw0
    walk_at "go"
    refine subL F ?_
    walk_at "go"
    have hLs := F.ltL
    refine ⟨a, items, _, _, _, _, rfl, Heap.PlainList.isList ⟨nl, F.old (by simp) hl⟩, .int _ _, .none, F, by omega, ?_⟩
    clear F; intro b s F hb
    walk_at "go"
    refine inner_again ih (F.moreD (by simp)) (C.mono (by omega) (by omega)) W U rfl rfl rfl (T.step F.ext) (F.get (x := .list _) (.head _)) ?_ (G.sub (List.sublist_cons_self _ _)) ?_ (.inr (.inr lit_nc)) ?_ ?_
    · have h := hv.drop 1
      rw [← sl_from] at h
      exact h
    · exact mu_tail hm
    · exact fun p hp => by
        rcases List.mem_cons.mp hp with rfl | hp
        · exact Nat.le_trans (Nat.le_of_lt (by assumption)) hb
        · exact hnew3 _ _ _ p hp
    clear F; intro t2 s F T'
    have hrl := rx_le (n := n) (op := nc) (G.sub (List.sublist_cons_self _ _) : Good (w2 :: ws))
    have hn3 : nc.length = 3 := rfl
    rw [lit_nc]
    refine addP F T' (by omega) ?_
    clear F T'; intro t3 s F T'
    refine cSP F T' (S_of _) ?_
    clear F T'; intro t4 s F T'
    rw [lit_q]
    refine addP F T' (by simp only [List.length_append, List.length_cons, List.length_nil]; omega) ?_
    clear F T'; intro t5 s F T'
    walk_at "nm"
    refine addP F T' (by simp only [List.length_append, List.length_cons, List.length_nil]; omega) ?_
    clear F T'; intro t6 s F T'
    exact ⟨_, rfl, ⟨t6, by show Value.str (S _) _ = _; rw [rx, if_pos rfl]⟩, T', F.ext⟩
  rename_i h2
  have hw0 : w1 ≠ [] := fun q => h2 (by rw [q]; rfl)
  refine wpAny_execs_nil (wpAny_execs_cons (wpAny_mono (inner5 (pm := pm) ih C W U T ⟨nl, hl⟩ hv G hm hopl hw0 F) (fun f s' h => ?_) (fun _ _ e => e.elim)))
  rcases h with ⟨rfl, hns, F'⟩ | ⟨v, rfl, hp⟩
  · exact inner6 ih C W U T ⟨nl, hl⟩ hv G hm hopl hw0 hns F'
  · exact ⟨v, rfl, hp⟩
theorem inner_nil {w : World} {A : Around} {g : Shared} {a : Addr} {items : Array Value} {op : List Nat} {t : Tok} (n : Nat) (C : Cx A 20 300) (W : Wo (KK w) g.heap) (T : TabOk bb g.heap) (hl : g.heap.PlainList a items) (hv : SV items.toList []) (hop : op = [] ∨ op = [40] ∨ op = nc) :
    codeAny (model pw w) A (.call (.ref 148) ⟨[.ref a, .str (S op) t], []⟩) (Ret (InnerPost bb A g (rx n [] op))) g := by
  obtain ⟨pm, hk⟩ := k_inner w
  refine callKC (d := 19) (u := 297) (C.mono (by omega) (by omega)) W hk (by kernel_rfl) rfl rfl rfl rfl (fun n p hp => ?_) rfl rfl rfl fun s C X F => ?_
  · have hp : p ∈ [(("slen" : Str), n + 2), ("first", n + 1), ("plen", n)] := hp
    simp at hp
    rcases hp with rfl | rfl | rfl <;> rfl
  replace F : Fs [] g g.heap.objs.size _ [(g.heap.objs.size + 3, .cell none), (g.heap.objs.size + 2, .cell none), (g.heap.objs.size + 1, .cell none)] s := F
  replace F := F.as [("strings", .ref a), ("open_paren", .str (S op) t)] ⟨rfl, rfl, trivial⟩
  have hD : okD tabP kmax [] := ok0
  have hbig := W.big
  have hopl : op.length ≤ 3 := by rcases hop with rfl | rfl | rfl <;> decide
  have hzi : items.size = 0 := by rw [← Array.length_toList]; exact hv.len
  obtain ⟨nl, hl⟩ := hl
  show wpAny _ _ (execs (_ :: _) _) _ _ _
  refine wpAny_execs_cons (wpAny_mono (Q := fun f s' => f = Flow.next ∧ ∃ t', Fs [] g g.heap.objs.size (lk [("close_paren", .str (S (clo op)) t'), ("strings", .ref a), ("open_paren", .str (S op) t)]) [(g.heap.objs.size + 3, .cell none), (g.heap.objs.size + 2, .cell none), (g.heap.objs.size + 1, .cell none)] s') (E := fun _ _ => False) ?_ ?_ (fun _ _ h => h.elim))
  · walk_at "go"
    refine truS F (by omega) ?_
    clear F; intro s F
    cases op with
    | nil =>
      rw [if_neg (by decide)]
      refine truS F (by decide) ?_
      clear F; intro s F
      rw [if_neg (by decide)]
      walk_at "go"
      exact ⟨rfl, _, F.as _ ⟨by show some _ = _; rw [show (Str.ofString "").cps.toList = clo [] from by decide +kernel], rfl, rfl, trivial⟩⟩
    | cons c r =>
      rw [if_pos (show (!(c :: r).isEmpty) = true from rfl)]
      walk_at "go"
      refine truS F (by decide) ?_
      clear F; intro s F
      rw [if_pos (by decide +kernel)]
      walk_at "go"
      exact ⟨rfl, _, F.as _ ⟨by show some _ = _; rw [lit_rp]; rfl, rfl, rfl, trivial⟩⟩
  rintro f s ⟨rfl, t1, F⟩
  walk_at "go"
  refine truL F (items := items) (Heap.PlainList.isList ⟨nl, F.old (by simp) hl⟩) (by omega) ?_
  clear F; intro s F
  have hi0 : items = #[] := Array.eq_empty_of_size_eq_zero hzi
  subst hi0
  rw [if_pos (by decide)]
  walk_at "go"
  exact ⟨_, rfl, ⟨_, by show Value.str (S (Str.ofString "").cps.toList) _ = _; rw [show (Str.ofString "").cps.toList = rx n [] op from lit_nil.trans (by cases n <;> rfl)]⟩, T.step F.ext, F.ext.mono (by simp)⟩
theorem inner_all (w : World) : ∀ n, InnerAt bb w n
  | 0 => fun A g a items ws op t C W U T hl hv G hm hop => by
    have hws : ws = [] := by
      cases ws with
      | nil => rfl
      | cons x r => have := mu_pos (ws := x :: r) (by simp); omega
    subst hws
    exact inner_nil 0 (C.mono (by omega) (by omega)) W T hl hv hop
  | n + 1 => inner_step w n (inner_all w n)

/-- only the draws may have changed -/
theorem TabOk.drawn {s s' : Shared} (T : TabOk bb s.heap) (x : Ext [1] s s') (k : ∀ o, s.heap.get? 1 = some o → s'.heap.get? 1 = some o) : TabOk bb s'.heap := by
  refine TabOk.step (s := { s with drawn := s'.drawn }) T ⟨fun b o _ e => ?_, x.os, x.gens, x.bare, x.soft⟩
  by_cases h : b = 1
  · rw [h] at e ⊢; exact k o e
  · exact x.keep b o (by simpa using h) e
theorem Ext.one {s s' : Shared} (x : Ext [1] s s') (k : ∀ o, s.heap.get? 1 = some o → s'.heap.get? 1 = some o) : Ext [] s s' :=
  ⟨fun b o _ e => by
    by_cases h : b = 1
    · rw [h] at e ⊢; exact k o e
    · exact x.keep b o (by simpa using h) e, x.os, x.gens, x.bare, x.soft⟩
theorem TabOk.local {h h' : Heap} {L : Addr} {m m' : Str → Option Value} (T : TabOk bb h) (hs : Heap.SameBut L h h') (hn : h.Ns L m) (hn' : h'.Ns L m') : TabOk bb h' := by
  obtain ⟨⟨ob, hb, hb'⟩, ps, hp, ht, hmk, hc⟩ := T
  obtain ⟨oL, es, ep', hL, hLd, _⟩ := hn
  have kp : ∀ b o, h.get? b = some o → (∀ es ep, o.data ≠ .dict es ep) → h'.get? b = some o := fun b o e hd => (hs.2 b (fun q => by rw [q, hL] at e; cases e; exact hd _ _ hLd)).trans e
  refine ⟨⟨ob, kp 4 ob hb (fun _ _ q => by rw [hb'.2.2] at q; cases q), hb'⟩, ps, kp 145 _ hp (fun _ _ q => nomatch q), ht, hmk.same hs hn', fun cv hcv => ?_⟩
  obtain ⟨⟨c, oc, vs, tq, e1, e2, e3, e4⟩, hge⟩ := hc cv hcv
  exact ⟨⟨c, oc, vs, tq, e1, kp c oc e2 (fun _ _ q => by rw [e3] at q; cases q), e3, e4⟩, hge⟩
/-- a local name stored, the table kept -/
theorem stT {M : Model} {A : Around} {E : Value → Shared → Prop} {D : List Addr} {g s : Shared} {L : Addr} {m : Str → Option Value} {news : List (Addr × Sh)} {env : Env} {x : Str} {v : Value} {Q : Unit → Shared → Prop} (F : Fs D g L m news s) (T : TabOk bb s.heap)
    (h : ∀ s', Fs D g L (fun y => if y = x then some v else m y) news s' → TabOk bb s'.heap → Q () s') (hL : env.locals = L := by rfl) (hk : env.scope.kind = .function := by rfl)
    (hl : env.kindOf x = some .local := by rfl) : wpAny M A (storeName env x v) Q E s :=
  stX F (fun s' F' hs _ => let ⟨_, n, _⟩ := F.loc; h s' F' (T.local hs n F'.loc.choose_spec.1)) hL hk hl
abbrev fdR (pm : Value) : FuncData := fnOf "regex_opt" "regex_opt" (parsI 14) (bodyI 14) (scopI 14) (.ref 149) .none .none pm none (.ref 155) .none
theorem k_ropt (w : World) : ∃ pm, (KK w).lookup 156 = some ⟨.type "function", none, .func (fdR pm), #[]⟩ := ⟨_, rfl⟩
theorem k_rdef (w : World) : ∃ o, (KK w).lookup 149 = some o ∧ ∃ n t u, o.data = .seq #[.str (S []) t, .str (S []) u] n := ⟨_, rfl, _, _, _, rfl⟩
theorem lit_lp : (Str.ofString "(").cps.toList = [40] := by decide +kernel
/-- the words sorted, each once -/
structure Canon (us ws : List (List Nat)) : Prop where
  good : Good us
  mem : ∀ y, y ∈ us ↔ y ∈ ws
theorem Canon.eq {us ws ss ts : List (List Nat)} (C : Canon us ws) (h1 : ss.Nodup) (h2 : ∀ y, y ∈ ss ↔ y ∈ ws) (h3 : ts.Perm ss) (h4 : Rising ts) : ts = us := by
  refine rising_uniq h4 C.good.up (h3.trans ?_)
  rw [List.perm_ext_iff_of_nodup h1 C.good.nd]
  exact fun y => (h2 y).trans (C.mem y).symm
theorem ropt_spec {w : World} {A : Around} {g : Shared} {args : Args} {V : Addr} {p q : List Nat} {tp tq : Tok} {us ws : List (List Nat)} (n : Nat) (C : Cx A (6 * n + 21) (40 * n + 303)) (W : Wo (KK w) g.heap) (U : Up kmax A g.heap) (T : TabOk bb g.heap)
    (hb : ∀ pm, (KK w).lookup 156 = some ⟨.type "function", none, .func (fdR pm), #[]⟩ → BindsTo g (fdR pm) args [("strings", .ref V), ("prefix", .str (S p) tp), ("suffix", .str (S q) tq)])
    (hset : ∀ (A : Around) (s : Shared) (Q : Value → Shared → Prop) (E : Value → Shared → Prop), A.handled = none → Ext [] g s → (∀ a s' ss, s.heap.objs.size ≤ a → Ext [] s s' → SetIs pw w s'.heap a ss → ss.Nodup → (∀ y, y ∈ ss ↔ y ∈ ws) → Q (.ref a) s') → wpAny (model pw w) A (call (.type "set") [.ref V]) Q E s)
    (hc : Canon us ws) (hm : mu us ≤ n) (hp : p.length ≤ 100) (hq : q.length ≤ 100) :
    codeAny (model pw w) A (.call (.ref 156) args) (Ret fun v s' => (∃ t, v = .str (S (p ++ rx n us [40] ++ q)) t) ∧ TabOk bb s'.heap ∧ Ext ([145] ++ frs A) g s') g := by
  obtain ⟨pm, hk⟩ := k_ropt w
  refine callK [] (d := 6 * n + 20) (u := 40 * n + 300) C W hk (by kernel_rfl) rfl (hb pm hk) rfl rfl rfl rfl rfl fun s C X F => ?_
  have hbig := W.big
  have hD : okD tabP kmax [] := ok0
  have T1 := T.step X
  show wpAny _ _ (execs (_ :: _) _) _ _ _
  walk_at "go"
  refine hset _ _ _ _ C.hh F.ext fun a s1 ss ha X1 hS hnd hmem => ?_
  have hL0 := F.ltL
  replace F := F.step X1
  have T2 := T1.step ((Ext.refl [] s).trans X1)
  walk_at "go"
  have hus := hc.good.len
  have hssl : ss.length ≤ 30 := by
    have h1 : us.Perm ss := (List.perm_ext_iff_of_nodup hc.good.nd hnd).mpr fun y => (hc.mem y).trans (hmem y).symm
    rw [← h1.length_eq]; exact hus
  have hka : kmax ≤ a := Nat.le_trans hbig (Nat.le_trans (Nat.le_of_lt hL0) ha)
  have hLs := F.ltL
  refine sorted_set C.hh hS (Nat.ne_of_gt (Nat.lt_of_lt_of_le (by decide) hka)) (Nat.lt_of_lt_of_le (Nat.lt_of_lt_of_le (by decide : 1 < kmax) hbig) (Nat.le_of_lt hLs)) (by omega) fun c ys ts s2 e hsv hperm hrise X2 K2 hcs hc2 => ?_
  have hts : ts = us := hc.eq hnd hmem hperm hrise
  rw [hts] at hsv
  replace T2 := T2.drawn X2 K2
  have F2 := F.step (X2.one K2)
  replace F2 := F.add F2 hcs (x := .list ys.toArray) ⟨e, hc2⟩
  clear F T1 X1 hS X2 K2
  refine stT F2 T2 ?_
  clear F2 T2; intro s F T2
  iterate 11 walk_at "m"
  refine cSP F T2 (S_of _) ?_
  clear F T2; intro t1 s F T2
  rw [lit_lp]
  walk_at "go"
  have Ws := W.ext (small _) hD F.ext
  have hcg : g.heap.objs.size ≤ c := Nat.le_trans (Nat.le_of_lt hLs) hcs
  refine use (inner_all w n _ _ c ys.toArray us [40] t1 (C.mono (by omega) (by omega)) Ws (U.deep F hbig rfl rfl) T2 (F.get (x := .list _) (.head _)) (by simpa using hsv) hc.good hm (.inr (.inl rfl))) fun v s' hp => ?_
  obtain ⟨⟨t2, rfl⟩, T3, X3⟩ := hp
  replace F := (F.moreD (D' := [145]) (by simp)).after U (by decide) hbig rfl X3 (fun d hd => .inl (by simp at hd; simp [hd])) (fun h => by simp at h) (fun p hp q => by
    have h1 := Nat.le_trans hbig hcg
    rw [List.mem_singleton.mp hp] at q
    have q : c = 145 := List.mem_singleton.mp q
    rw [q] at h1
    exact absurd h1 (by decide))
  have hD : okD tabP kmax ([145] ++ frs A) := okDf (fun b hb => by simp at hb; exact .inl hb) U
  have hrl := rx_le (n := n) (op := [40]) hc.good
  have h40 : [40].length = 1 := rfl
  refine addP F T3 (by omega) ?_
  clear F T3; intro t3 s F T3
  walk_at "nm"
  refine addP F T3 (by rw [List.length_append]; omega) ?_
  clear F T3; intro t4 s F T3
  exact ⟨_, rfl, ⟨t4, rfl⟩, T3, F.ext⟩

/-- the numbers a law draws from -/
structure Nums (items : Array Value) : Prop where
  pos : 0 < items.size
  sz : items.size ≤ 100
  nn : ∀ v ∈ items.toList, ∃ (k : Int) (t : Tok), v = .int k t ∧ 0 ≤ k ∧ k ≤ 2000000
/-- a law's state: numbers and a place -/
def StateAt (h : Heap) (P N : Addr) (items : Array Value) (at' : Nat) : Prop := (∃ t, h.IsList P #[.ref N, .int at' t]) ∧ h.PlainList N items ∧ Nums items
theorem k_next (w : World) : ∃ pm, (KK w).lookup 163 = some ⟨.type "function", none, .func (fdI 16 "_law_next" pm (.ref 162)), #[]⟩ := ⟨_, rfl⟩
theorem next_spec {w : World} {A : Around} {g : Shared} (C : Cx A 2 20) (W : Wo (KK w) g.heap) {P N : Addr} {items : Array Value} {at' many : Nat} {tm : Tok} (hS : StateAt g.heap P N items at') (hkP : kmax ≤ P) (hat : at' ≤ 100000) (hm : 0 < many) (hm' : many ≤ 1000) :
    codeAny (model pw w) A (.call (.ref 163) ⟨[.ref P, .int many tm], []⟩) (Ret fun v s' => (∃ (r : Nat) (t : Tok), v = .int r t ∧ r < many) ∧ StateAt s'.heap P N items (at' + 1) ∧ Ext [P] g s') g := by
  obtain ⟨pm, hk⟩ := k_next w
  obtain ⟨⟨t0, oP, hP, hPc, nP, hPd⟩, ⟨nN, hN⟩, hnum⟩ := hS
  have hPN : N ≠ P := fun q => by
    rw [q, hP] at hN
    have := congrArg Obj.data (Option.some.inj hN)
    rw [hPd] at this
    injection this with h1
    have h2 := hnum.nn (.ref N) (by rw [← h1]; simp)
    obtain ⟨k, t, h3, _⟩ := h2
    cases h3
  refine callK [P] (d := 1) (u := 17) C W hk (by kernel_rfl) rfl (BindsTo.of_eq (binds := [("state", .ref P), ("many", .int many tm)]) rfl) rfl rfl rfl rfl rfl fun s C X F => ?_
  have hD := okD1 hkP
  have hPL : P ≠ g.heap.objs.size := Nat.ne_of_lt (Heap.lt_size hP)
  replace F := F.put (x := .raw oP) (a := P) (X.keep P _ (by simp) hP) (.inl ⟨by simp, fun o e es ep q => by rw [hP] at e; cases e; rw [hPd] at q; cases q⟩) hPL (fun _ h => nomatch h)
  have hlP : ∀ {s : Shared} {L : Addr} {m : Str → Option Value} {news : List (Addr × Sh)}, Fs [P] g L m ((P, .raw oP) :: news) s → s.heap.IsList P #[.ref N, .int at' t0] := fun F => ⟨oP, F.get (x := .raw _) (.head _), hPc, nP, hPd⟩
  have hlN : ∀ {s : Shared} {L : Addr} {m : Str → Option Value} {news : List (Addr × Sh)}, Fs [P] g L m news s → s.heap.IsList N items := fun F => Heap.PlainList.isList ⟨nN, F.old (by simpa using hPN) hN⟩
  show wpAny _ _ (execs (_ :: _) _) _ _ _
  walk_at "go"
  refine Assign_Tuple_swapped (names := ["numbers", "at"]) ?_
  walk_at "go"
  refine itemL F (items := #[.ref N, .int at' t0]) (x := .ref N) (hlP F) (by decide) (by simp) rfl ?_
  walk_at "go"
  refine itemL F (items := #[.ref N, .int at' t0]) (x := .int at' t0) (hlP F) (by decide) (by simp) rfl ?_
  walk_at "go"
  refine newT F (by simp) ?_
  clear F; intro T s F hT
  refine unpB C.hh F (F.get (x := .raw _) (.head _)) ?_
  clear F; intro s F
  walk_at "go"
  refine wpAny_Assign_Subscript ?_
  walk_at "go"
  refine wpAny_setItem_list (hlP (F.drop (List.sublist_cons_self _ _))) (by decide) (by decide) (by simp) fun h' hl' hs' => ?_
  obtain ⟨oP', hP', hPc', nP', hPd'⟩ := hl'
  obtain ⟨tX, hPd2⟩ : ∃ t, oP'.data = .seq #[.ref N, .int ((at' + 1 : Nat) : Int) t] nP' := ⟨_, hPd'⟩
  replace F := F.upd (pre := [(T, _)]) (post := []) rfl (x' := .raw oP') hP' hs' s.toks
  generalize s.toks = tt at *
  generalize ({ s with heap := h', toks := tt } : Shared) = s2 at F ⊢
  have hz1 := hnum.pos
  have hz2 := hnum.sz
  walk_at "go"
  refine lenL F (items := items) (hlN F) (by omega) ?_
  clear F; intro tl s F
  refine intDiv F (by omega) (by omega) ?_
  clear F; intro td s F
  walk_at "go"
  refine lenL F (items := items) (hlN F) (by omega) ?_
  clear F; intro tl2 s F
  refine intMod F (by omega) ?_
  clear F; intro tm2 s F
  have hfm : ((at' : Int).fmod (items.size : Int)) = ((at' % items.size : Nat) : Int) := by rw [Int.fmod_eq_emod_of_nonneg _ (by omega)]; exact (Int.natCast_emod _ _).symm
  have hfd : ((at' : Int).fdiv (items.size : Int)) = ((at' / items.size : Nat) : Int) := by rw [Int.fdiv_eq_ediv_of_nonneg _ (by omega)]; exact (Int.natCast_ediv _ _).symm
  rw [hfd] at F
  rw [hfm]
  have hlt : at' % items.size < items.size := Nat.mod_lt _ hz1
  obtain ⟨k, tk, hkv, hk0, hk1⟩ := hnum.nn (items.toList[at' % items.size]'(by simpa using hlt)) (List.getElem_mem _)
  have hget : items[at' % items.size]? = some (.int k tk) := by
    rw [Array.getElem?_eq_getElem hlt, ← hkv]; simp
  refine itemL F (items := items) (x := .int k tk) (hlN F) (by omega) (by omega) (by rw [Int.toNat_natCast]; exact hget) ?_
  have hdl : at' / items.size ≤ at' := Nat.div_le_self _ _
  generalize at' / items.size = q at *
  walk_at "go"
  refine intDiv F (by omega) (by omega) ?_
  clear F; intro td2 s F
  walk_at "go"
  refine intMul F (IntMulOk.of_left (by decide)) ?_
  clear F; intro td3 s F
  walk_at "go"
  refine intMod F (by omega) ?_
  clear F; intro td4 s F
  have hr0 : (k.fdiv (1 + (q : Int)) + 7 * (q : Int)).fmod (many : Int) = (((k.fdiv (1 + (q : Int)) + 7 * (q : Int)).emod (many : Int)).toNat : Int) := by
    rw [Int.fmod_eq_emod_of_nonneg _ (by omega)]
    exact (Int.toNat_of_nonneg (Int.emod_nonneg _ (by omega))).symm
  have hr1 : ((k.fdiv (1 + (q : Int)) + 7 * (q : Int)).emod (many : Int)).toNat < many := by
    have h1 := Int.emod_lt_of_pos (k.fdiv (1 + (q : Int)) + 7 * (q : Int)) (show (0 : Int) < many by omega)
    have h2 := Int.emod_nonneg (k.fdiv (1 + (q : Int)) + 7 * (q : Int)) (show (many : Int) ≠ 0 by omega)
    have h3 : (k.fdiv (1 + (q : Int)) + 7 * (q : Int)).emod (many : Int) = (k.fdiv (1 + (q : Int)) + 7 * (q : Int)) % (many : Int) := rfl
    omega
  exact ⟨_, rfl, ⟨_, td4, by rw [← hr0]; rfl, hr1⟩, ⟨⟨tX, oP', F.get (x := .raw _) (.tail _ (.head _)), hPc', nP', hPd2⟩, ⟨nN, F.old (by simpa using hPN) hN⟩, hnum⟩, F.ext⟩

def signsL : List (List Nat) := ["ab", "abc", "a.b*", "a-b^", "[a]b", "a\\b|", "(a)?", "a $+", "xyz{}", "a\nb#"].map fun x => (Str.ofString x).cps.toList
theorem signs_ok : ∀ x ∈ signsL, 2 ≤ x.length ∧ x.length ≤ 5 := by decide +kernel
theorem signs_len : signsL.length = 10 := rfl
theorem k_signs (w : World) : ∃ pm, (KK w).lookup 175 = some ⟨.type "function", none, .func (fdI 18 "_law_signs" pm (.ref 174)), #[]⟩ := ⟨_, rfl⟩
theorem signs_spec {w : World} {A : Around} {g : Shared} (C : Cx A 2 20) (W : Wo (KK w) g.heap) :
    codeAny (model pw w) A (.call (.ref 175) ⟨[], []⟩) (Ret fun v s' => (∃ a ys, v = .ref a ∧ g.heap.objs.size ≤ a ∧ s'.heap.PlainList a ys ∧ SV ys.toList signsL) ∧ Ext [] g s') g := by
  obtain ⟨pm, hk⟩ := k_signs w
  refine callK [] (d := 1) (u := 17) C W hk (by kernel_rfl) rfl (BindsTo.of_eq (binds := []) rfl) rfl rfl rfl rfl rfl fun s C X F => ?_
  have hD := ok0
  show wpAny _ _ (execs (_ :: _) _) _ _ _
  walk_at "go"
  have hL := F.ltL
  refine newL F (by simp) fun a s F ha => ?_
  exact ⟨_, rfl, ⟨a, _, rfl, Nat.le_trans (Nat.le_of_lt hL) ha, F.get (x := .list _) (.head _), .cons (.cons (.cons (.cons (.cons (.cons (.cons (.cons (.cons (.cons .nil)))))))))⟩, F.ext⟩

theorem k_state (w : World) : ∃ pm, (KK w).lookup 168 = some ⟨.type "function", none, .func (fdI 17 "_law_state" pm (.ref 167)), #[]⟩ := ⟨_, rfl⟩
theorem intsAt : ∀ {vs : List Value} {ns : List Int}, IntsAre vs ns → ∀ {i : Nat} {v : Value}, vs[i]? = some v → ∃ k t, v = .int k t
  | _, _, .nil, _, _, e => by simp at e
  | _, _, .cons n t h, 0, v, e => by simp at e; exact ⟨n, t, e.symm⟩
  | _, _, .cons n t h, i + 1, v, e => by simp at e; exact intsAt h e
theorem state_spec {w : World} {A : Around} {g : Shared} (C : Cx A 2 20) (W : Wo (KK w) g.heap) {a : Addr} {vs : List Value} {ns : List Int} (hl : g.heap.IsList a vs.toArray) (hi : IntsAre vs ns) (hz : vs.length ≤ 100) :
    codeAny (model pw w) A (.call (.ref 168) ⟨[.ref a], []⟩) (Ret fun v s' => (∃ P N items, v = .ref P ∧ g.heap.objs.size ≤ P ∧ g.heap.objs.size ≤ N ∧ StateAt s'.heap P N items 0) ∧ Ext [] g s') g := by
  obtain ⟨pm, hk⟩ := k_state w
  refine callI [("script", .ref a)] [] (d := 1) (u := 17) C W hk (by kernel_rfl) rfl rfl rfl rfl rfl rfl fun s₁ A C F => ?_
  have hD := ok0
  show wpAny _ _ (execs (_ :: _) _) _ _ _
  walk_at "go"
  refine comp_eval F [] rfl (by decide) rfl (by decide) rfl ?_
  refine subL F ?_
  walk_at "go"
  have hL0 := F.ltL
  refine ⟨a, vs.toArray, _, _, _, _, rfl, hl.at fun o e => F.old (by simp) e, .none, .int _ _, F, by simp; omega, ?_⟩
  clear F; intro b s F hb
  have hbg := Nat.le_trans (Nat.le_of_lt hL0) hb
  rw [show sl none (some (24 : Int)) vs.toArray.toList = vs.take 24 from sl_to 24 vs] at F
  obtain ⟨nb, F⟩ := F.raw [] _ rfl
  have hIn : IntsAre (vs.take 24) (ns.take 24) := by
    have : ∀ {vs : List Value} {ns : List Int} (k : Nat), IntsAre vs ns → IntsAre (vs.take k) (ns.take k) := by
      intro vs ns k h
      induction k generalizing vs ns with
      | zero => simpa using IntsAre.nil
      | succ k ih => cases h with | nil => exact .nil | cons n t h => exact .cons n t (ih h)
    exact this 24 hi
  have hl24 : (vs.take 24).length ≤ 24 := by rw [List.length_take]; exact Nat.min_le_left _ _
  refine compGL F C.hh (fun _ v => ∃ (k : Int) (t : Tok), v = .int k t ∧ 0 ≤ k ∧ k ≤ 2000000) (seqObj "list" (vs.take 24).toArray nb) (fun C' mC pre s' F' => F'.get (x := .raw _) (List.mem_append_right _ (.head _))) ⟨nb, F.get (x := .raw _) (.head _)⟩ (by simp; omega) (fun i v pre C' s E' hv F => ?_) (fun acc ys s hlen hys F => ?_)
  · obtain ⟨k, t, rfl⟩ := intsAt hIn (i := i) (v := v) (by simpa using hv)
    walk_at "go"
    refine call_abs_int fun u tk => ?_
    replace F := F.tk tk
    generalize ({ s with toks := tk } : Shared) = s at F ⊢
    walk_at "go"
    refine intMod F (by decide) ?_
    clear F; intro tr s F
    have h1 : (0 : Int) ≤ (if k < 0 then -k else k).fmod 1000003 ∧ (if k < 0 then -k else k).fmod 1000003 < 1000003 := by
      rw [Int.fmod_eq_emod_of_nonneg _ (by decide)]
      exact ⟨Int.emod_nonneg _ (by decide), Int.emod_lt_of_pos _ (by decide)⟩
    exact ⟨⟨_, tr, rfl, h1.1, by omega⟩, F⟩
  · have hlen' : ys.length ≤ 24 := by rw [hlen]; simpa using hl24
    have hacc : g.heap.objs.size ≤ acc := (F.own (acc, .list ys.toArray) (.head _)).elim (fun h => nomatch h.1) id
    walk_at "go"
    refine newL F (by simp) fun b3 s F hb3 => ?_
    refine addL F (F.get (x := .list _) (.tail _ (.head _))) (F.get (x := .list _) (.head _)) (by simp; omega) fun N s F hN => ?_
    walk_at "go"
    refine newL F (by simp) fun P s F hP => ?_
    have hPg : g.heap.objs.size ≤ P := (F.own (P, .list _) (.head _)).elim (fun h => nomatch h.1) id
    have hNg : g.heap.objs.size ≤ N := (F.own (N, .list _) (.tail _ (.head _))).elim (fun h => nomatch h.1) id
    refine ⟨⟨P, N, _, rfl, hPg, hNg, ⟨_, Heap.PlainList.isList (F.get (x := .list _) (.head _))⟩, F.get (x := .list _) (.tail _ (.head _)), ?_⟩, F.ext⟩
    refine ⟨by simp, by simp; omega, fun v hv => ?_⟩
    rw [Array.toList_append] at hv
    rcases List.mem_append.mp hv with h | h
    · obtain ⟨i, hi', e⟩ := List.mem_iff_getElem.mp h
      exact hys i v (by rw [← e]; simp)
    · simp only [List.mem_cons, List.not_mem_nil, or_false] at h
      rcases h with rfl | rfl | rfl <;> exact ⟨_, _, rfl, by decide, by decide⟩

/-- a state's list, as it lies -/
def StO (o : Obj) (N : Addr) (k : Nat) : Prop := o.cls = .type "list" ∧ ∃ t n, o.data = .seq #[.ref N, .int (k : Nat) t] n
theorem AllAt.of {h : Heap} : ∀ {l : List (Addr × Sh)}, (∀ p ∈ l, p.2.at h p.1) → AllAt h l
  | [], _ => trivial
  | p :: r, x => ⟨x p (.head _), AllAt.of fun q hq => x q (.tail _ hq)⟩
/-- one draw, the state in the ledger -/
theorem next_in {w : World} {A : Around} {E : Value → Shared → Prop} {Q : Value → Shared → Prop} {D : List Addr} {g s : Shared} {L P N : Addr} {m : Str → Option Value} {news : List (Addr × Sh)} {oP : Obj} {items : Array Value} {k many : Nat} {tm : Tok} (pre post : List (Addr × Sh))
    (C : Cx A 2 20) (W : Wo (KK w) g.heap) (hD : okD tabP kmax D) (F : Fs D g L m news s) (en : news = pre ++ (P, .raw oP) :: post) (ho : StO oP N k) (hN : s.heap.PlainList N items) (hnum : Nums items) (hkP : kmax ≤ P) (hat : k ≤ 100000) (hm : 0 < many) (hm' : many ≤ 1000)
    (h : ∀ r t s' oP', r < many → StO oP' N (k + 1) → s'.heap.PlainList N items → Ext [P] s s' → Fs D g L m (pre ++ (P, .raw oP') :: post) s' → Q (.int (r : Nat) t) s') : wpAny (model pw w) A (call (.ref 163) [.ref P, .int many tm]) Q E s := by
  subst en
  have hP : s.heap.get? P = some oP := F.get (x := .raw _) (by simp)
  obtain ⟨hc, t0, n0, hd⟩ := ho
  refine use (next_spec (items := items) (at' := k) C (W.ext (small _) hD F.ext) ⟨⟨t0, oP, hP, hc, n0, hd⟩, hN, hnum⟩ hkP hat hm hm') fun v s' hv => ?_
  obtain ⟨⟨r, t, rfl, hr⟩, ⟨⟨t1, oP', hP', hc', n1, hd'⟩, hN', _⟩, X⟩ := hv
  refine h r t s' oP' hr ⟨hc', t1, n1, hd'⟩ hN' X (F.re (pre ++ (P, .raw oP') :: post) (by simp) X (one_of (k := kmax) (by simpa using hkP) (by decide)) (fun d hd => .inr (by simp at hd; simp [hd])) (AllAt.of fun p hp => ?_))
  have hnd : (pre.map (·.1) ++ P :: post.map (·.1)).Nodup := by have := (List.nodup_cons.mp F.nd).2; simpa using this
  rw [List.nodup_append] at hnd
  obtain ⟨_, n2, n3⟩ := hnd
  rcases List.mem_append.mp hp with hp' | hp'
  · exact Sh.at_keep (F.led p (List.mem_append_left _ hp')) fun o e => X.keep _ o (by simpa using n3 _ (List.mem_map_of_mem hp') P (by simp)) e
  · rcases List.mem_cons.mp hp' with rfl | hp'
    · exact hP'
    · exact Sh.at_keep (F.led p (List.mem_append_right _ (.tail _ hp'))) fun o e => X.keep _ o (by
        rw [List.mem_singleton]
        intro q
        exact (List.nodup_cons.mp n2).1 (q ▸ List.mem_map_of_mem hp')) e
/-- what a law's words are -/
structure Words (ss : List (List Nat)) : Prop where
  ne : ss ≠ []
  nd : ss.Nodup
  len : ss.length ≤ 7
  sz : ∀ w ∈ ss, w.length ≤ 16
theorem k_words (w : World) : ∃ pm, (KK w).lookup 182 = some ⟨.type "function", none, .func (fdI 19 "_law_words" pm (.ref 181)), #[]⟩ := ⟨_, rfl⟩
theorem words_spec {w : World} {A : Around} {g : Shared} (C : Cx A 4 60) (W : Wo (KK w) g.heap) {P N : Addr} {items : Array Value} {at' : Nat} (hS : StateAt g.heap P N items at') (hkP : kmax ≤ P) (hat : at' ≤ 50000) :
    codeAny (model pw w) A (.call (.ref 182) ⟨[.ref P], []⟩) (Ret fun v s' => (∃ a ys ss, v = .ref a ∧ g.heap.objs.size ≤ a ∧ s'.heap.PlainList a ys ∧ SV ys.toList ss ∧ Words ss) ∧ (∃ k, k ≤ at' + 200 ∧ StateAt s'.heap P N items k) ∧ Ext [P] g s') g := by
  obtain ⟨pm, hk⟩ := k_words w
  obtain ⟨⟨t0, oP, hP, hPc, nP, hPd⟩, ⟨nN, hN⟩, hnum⟩ := hS
  have hPN : N ≠ P := fun q => by
    rw [q, hP] at hN
    have := congrArg Obj.data (Option.some.inj hN)
    rw [hPd] at this
    injection this with h1
    have h2 := hnum.nn (.ref N) (by rw [← h1]; simp)
    obtain ⟨k, t, h3, _⟩ := h2
    cases h3
  refine callK [P] (d := 3) (u := 57) C W hk (by kernel_rfl) rfl (BindsTo.of_eq (binds := [("state", .ref P)]) rfl) rfl rfl rfl rfl rfl fun s C X F => ?_
  have hD := okD1 hkP
  have hPL : P ≠ g.heap.objs.size := Nat.ne_of_lt (Heap.lt_size hP)
  replace F := F.put (x := .raw oP) (a := P) (X.keep P _ (by simp) hP) (.inl ⟨by simp, fun o e es ep q => by rw [hP] at e; cases e; rw [hPd] at q; cases q⟩) hPL (fun _ h => nomatch h)
  have hlN : ∀ {s : Shared} {L : Addr} {m : Str → Option Value} {news : List (Addr × Sh)}, Fs [P] g L m news s → s.heap.PlainList N items := fun F => ⟨nN, F.old (by simpa using hPN) hN⟩
  show wpAny _ _ (execs (_ :: _) _) _ _ _
  walk_at "go"
  refine callW0 (K := KK w) (by kernel_rfl) (W.ext (small _) hD F.ext).X (use (signs_spec (C.mono (by omega) (by omega)) (W.ext (small _) hD F.ext)) fun v s' hp => ?_)
  obtain ⟨⟨aS, yS, rfl, haS, hlS, hvS⟩, X1⟩ := hp
  replace F := F.add (F.step X1) haS (x := .list yS) hlS
  walk_at "go"
  refine next_in (many := 10) (oP := oP) (k := at') [(aS, .list yS)] [] (C.mono (by omega) (by omega)) W hD F rfl ⟨hPc, t0, nP, hPd⟩ (hlN F) hnum hkP (by omega) (by decide) (by decide) ?_
  clear F; intro r0 tr0 s oP1 hr0 ho1 _ _ F
  obtain ⟨σ, hσ⟩ : ∃ σ, signsL[r0]? = some σ := ⟨_, List.getElem?_eq_getElem (by rw [signs_len]; exact hr0)⟩
  obtain ⟨tσ, hiσ⟩ := hvS.at hσ
  obtain ⟨hσ1, hσ2⟩ := signs_ok σ (List.mem_of_getElem? hσ)
  have hyS : yS.size = 10 := by rw [← Array.length_toList, hvS.len, signs_len]
  refine itemLT (items := yS) (x := .str (S σ) tσ) (Heap.PlainList.isList (F.get (x := .list _) (.head _))) (by omega) (by omega) (by rw [Int.toNat_natCast]; simpa using hiσ) ?_
  walk_at "go"
  refine newL F (by simp) ?_
  clear F; intro a s F ha
  walk_at "go"
  refine wpAny_For ?_
  walk_at "go"
  refine next_in (many := 7) (oP := oP1) (k := at' + 1) [(a, .list _), (aS, .list yS)] [] (C.mono (by omega) (by omega)) W hD F rfl ho1 (hlN F) hnum hkP (by omega) (by decide) (by decide) ?_
  clear F; intro r1 tr1 s oP2 hr1 ho2 _ _ F
  walk_at "go"
  rw [show (1 + (r1 : Int)) = ((1 + r1 : Nat) : Int) by omega]
  refine forRng (fun i m nw => AllK m [("found", .ref a), ("signs", .str (S σ) tσ), ("state", .ref P)] ∧ ∃ (ys : List Value) (ss : List (List Nat)) (oP : Obj) (k : Nat), SV ys ss ∧ (0 < i → ss ≠ []) ∧ ss.Nodup ∧ ss.length ≤ i ∧ (∀ w ∈ ss, w.length ≤ 2 + 2 * i) ∧ StO oP N k ∧ k ≤ at' + 2 + 10 * i ∧
      nw = [(a, .list ys.toArray), (aS, .list yS), (P, .raw oP)]) C.hh F (by omega) ⟨⟨rfl, rfl, rfl, trivial⟩, [], [], oP2, at' + 2, .nil, (fun h => absurd h (by decide)), List.nodup_nil, by simp, by simp, ho2, by omega, rfl⟩ rfl rfl rfl ?_ ?_
  · rintro i ti m nw s I oI E' hi ⟨hm', ys, ss, oP3, k3, hv, hne, hnd, hlen, hsz, ho3, hk3, rfl⟩ F
    replace F := F.as [("found", .ref a), ("signs", .str (S σ) tσ), ("state", .ref P)] ⟨hm'.1, hm'.2.1, hm'.2.2.1, trivial⟩
    walk_at "go"
    refine wpAny_For ?_
    walk_at "go"
    refine next_in (many := 5) (oP := oP3) (k := k3) [(I, .raw oI), (a, .list _), (aS, .list yS)] [] (C.mono (by omega) (by omega)) W hD F rfl ho3 (hlN F) hnum hkP (by omega) (by decide) (by decide) ?_
    clear F; intro r2 tr2 s oP4 hr2 ho4 _ _ F
    walk_at "go"
    refine forRng (fun j m nw => AllK m [("found", .ref a), ("signs", .str (S σ) tσ), ("state", .ref P)] ∧ ∃ (wd : List Nat) (tw : Tok) (oP : Obj) (k : Nat), m "word" = some (.str (S wd) tw) ∧ wd.length ≤ j ∧ StO oP N k ∧ k ≤ at' + 3 + 10 * i + j ∧
        nw = [(I, .raw oI), (a, .list ys.toArray), (aS, .list yS), (P, .raw oP)]) C.hh F (by omega) ⟨⟨rfl, rfl, rfl, trivial⟩, _, _, oP4, k3 + 1, rfl, (by show (lit "").length ≤ 0; rw [lit_nil]; simp), ho4, by omega, rfl⟩ rfl rfl rfl ?_ ?_
    · rintro j tj m nw s I2 oI2 E' hj ⟨hm', wd, tw, oP5, k5, hwd, hwl, ho5, hk5, rfl⟩ F
      replace F := F.as [("word", .str (S wd) tw), ("found", .ref a), ("signs", .str (S σ) tσ), ("state", .ref P)] ⟨hwd, hm'.1, hm'.2.1, hm'.2.2.1, trivial⟩
      walk_at "go"
      refine lenS F (by omega) ?_
      clear F; intro tl s F
      walk_at "go"
      refine next_in (many := σ.length) (oP := oP5) (k := k5) [(I2, .raw oI2), (I, .raw oI), (a, .list _), (aS, .list yS)] [] (C.mono (by omega) (by omega)) W hD F rfl ho5 (hlN F) hnum hkP (by omega) (by omega) (by omega) ?_
      clear F; intro r3 tr3 s oP6 hr3 ho6 _ _ F
      refine itemS F (c := σ[r3]) (by omega) (by omega) (by rw [Int.toNat_natCast]; exact List.getElem?_eq_getElem hr3) ?_
      clear F; intro tc s F
      refine addS F (by simp; omega) ?_
      clear F; intro tw' s F
      walk_at "go"
      exact ⟨_, _, F, ⟨rfl, rfl, rfl, trivial⟩, _, _, oP6, k5 + 1, rfl, by simp; omega, ho6, by omega, rfl⟩
    · rintro m nw s ⟨hm', wd, tw, oP5, k5, hwd, hwl, ho5, hk5, rfl⟩ F
      replace F := F.as [("word", .str (S wd) tw), ("found", .ref a), ("signs", .str (S σ) tσ), ("state", .ref P)] ⟨hwd, hm'.1, hm'.2.1, hm'.2.2.1, trivial⟩
      walk_at "go"
      refine next_in (many := 5) (oP := oP5) (k := k5) [(I, .raw oI), (a, .list _), (aS, .list yS)] [] (C.mono (by omega) (by omega)) W hD F rfl ho5 (hlN F) hnum hkP (by omega) (by decide) (by decide) ?_
      clear F; intro r4 tr4 s oP7 hr4 ho7 _ _ F
      walk_at "m"
      have hu : (A.deeper (callEnv (fdI 19 "_law_words" pm (.ref 181)) g.heap.objs.size 182)).units < cLine := by have := C.un; omega
      have hyz : ys.length = ss.length := hv.len
      refine wpAny_execs_cons (wpAny_mono (Q := fun f s' => f = Flow.next ∧ ∃ (wd : List Nat) (tw : Tok) (oP : Obj) (k : Nat), wd.length ≤ 4 + 2 * i ∧ StO oP N k ∧ k ≤ at' + 9 + 10 * i ∧ Fs [P] g g.heap.objs.size (lk [("way", .int (r4 : Nat) tr4), ("word", .str (S wd) tw), ("found", .ref a), ("signs", .str (S σ) tσ), ("state", .ref P)]) [(I, .raw oI), (a, .list ys.toArray), (aS, .list yS), (P, .raw oP)] s') (E := fun _ _ => False) ?_ ?_ (fun _ _ h => h.elim))
      · walk_at "go"
        refine newL F (by simp) fun b s F hb => ?_
        refine neLs hu (Heap.PlainList.isList (F.get (x := .list _) (.tail _ (.tail _ (.head _))))) (Heap.PlainList.isList (F.get (x := .list _) (.head _))) (by simpa using hv) (by simpa using SV.nil) ?_
        replace F := F.drop (List.sublist_cons_self _ _)
        walk_at "go"
        split
        · rename_i hss
          have hss : ss ≠ [] := of_decide_eq_true hss
          walk_at "go"
          split
          · walk_at "go"
            rw [if_pos rfl]
            walk_at "go"
            refine lenL F (items := ys.toArray) (Heap.PlainList.isList (F.get (x := .list _) (.tail _ (.head _)))) (by rw [List.size_toArray]; omega) ?_
            clear F; intro tl s F
            walk_at "go"
            rw [show ys.toArray.size = ss.length from List.size_toArray.trans hyz]
            have hss0 := List.length_pos_iff.mpr hss
            refine next_in (many := ss.length) (oP := oP7) (k := k5 + 1) [(I, .raw oI), (a, .list _), (aS, .list yS)] [] (C.mono (by omega) (by omega)) W hD F rfl ho7 (hlN F) hnum hkP (by omega) (by omega) (by omega) ?_
            clear F; intro r5 tr5 s oP8 hr5 ho8 _ _ F
            obtain ⟨tv, hiv⟩ := hv.at (i := r5) (a := ss[r5]) (List.getElem?_eq_getElem hr5)
            have hvl := hsz ss[r5] (List.getElem_mem hr5)
            refine itemL F (items := ys.toArray) (x := .str (S ss[r5]) tv) (Heap.PlainList.isList (F.get (x := .list _) (.tail _ (.head _)))) (by omega) (by rw [List.size_toArray]; omega) (by rw [Int.toNat_natCast]; simpa using hiv) ?_
            refine subS F ?_
            walk_at "go"
            refine ⟨wd, tw, none, some (2 : Int), _, _, rfl, .none, .int _ _, F, by omega, ?_⟩
            clear F; intro tsl s F
            rw [show sl none (some (2 : Int)) wd = wd.take 2 from sl_to 2 wd]
            have htk : (wd.take 2).length ≤ 2 := by rw [List.length_take]; exact Nat.min_le_left _ _
            refine addS F (by omega) ?_
            clear F; intro tad s F
            walk_at "go"
            exact ⟨rfl, _, _, oP8, k5 + 2, by rw [List.length_append]; omega, ho8, by omega, F.as _ ⟨rfl, rfl, rfl, rfl, rfl, trivial⟩⟩
          · walk_at "go"
            rw [if_neg (by decide)]
            walk_at "go"
            exact ⟨rfl, _, _, oP7, k5 + 1, by omega, ho7, by omega, F.as _ ⟨rfl, rfl, rfl, rfl, rfl, trivial⟩⟩
        · walk_at "go"
          rw [if_neg (by decide)]
          walk_at "go"
          exact ⟨rfl, _, _, oP7, k5 + 1, by omega, ho7, by omega, F.as _ ⟨rfl, rfl, rfl, rfl, rfl, trivial⟩⟩
      · clear F; rintro f s ⟨rfl, wd, tw, oP8, k8, hwl, ho8, hk8, F⟩
        walk_at "m"
        refine (wpAny_mono (Q := fun f s' => f = Flow.next ∧ ∃ (wd : List Nat) (tw : Tok) (oP : Obj) (k : Nat), wd.length ≤ 4 + 2 * i ∧ StO oP N k ∧ k ≤ at' + 10 + 10 * i ∧ Fs [P] g g.heap.objs.size (lk [("way", .int (r4 : Nat) tr4), ("word", .str (S wd) tw), ("found", .ref a), ("signs", .str (S σ) tσ), ("state", .ref P)]) [(I, .raw oI), (a, .list ys.toArray), (aS, .list yS), (P, .raw oP)] s') (E := fun _ _ => False) ?_ ?_ (fun _ _ h => h.elim))
        · walk_at "go"
          refine newL F (by simp) fun b s F hb => ?_
          refine neLs hu (Heap.PlainList.isList (F.get (x := .list _) (.tail _ (.tail _ (.head _))))) (Heap.PlainList.isList (F.get (x := .list _) (.head _))) (by simpa using hv) (by simpa using SV.nil) ?_
          replace F := F.drop (List.sublist_cons_self _ _)
          walk_at "go"
          split
          · rename_i hss
            have hss : ss ≠ [] := of_decide_eq_true hss
            walk_at "go"
            split
            · walk_at "go"
              rw [if_pos rfl]
              iterate 3 walk_at "m"
              refine subS F ?_
              walk_at "go"
              refine ⟨wd, tw, none, some (2 : Int), _, _, rfl, .none, .int _ _, F, by omega, ?_⟩
              clear F; intro tsl s F
              rw [show sl none (some (2 : Int)) wd = wd.take 2 from sl_to 2 wd]
              have htk : (wd.take 2).length ≤ 2 := by rw [List.length_take]; exact Nat.min_le_left _ _
              walk_at "go"
              refine lenL F (items := ys.toArray) (Heap.PlainList.isList (F.get (x := .list _) (.tail _ (.head _)))) (by rw [List.size_toArray]; omega) ?_
              clear F; intro tl s F
              walk_at "go"
              rw [show ys.toArray.size = ss.length from List.size_toArray.trans hyz]
              have hss0 := List.length_pos_iff.mpr hss
              refine next_in (many := ss.length) (oP := oP8) (k := k8) [(I, .raw oI), (a, .list _), (aS, .list yS)] [] (C.mono (by omega) (by omega)) W hD F rfl ho8 (hlN F) hnum hkP (by omega) (by omega) (by omega) ?_
              clear F; intro r5 tr5 s oP8 hr5 ho8 _ _ F
              obtain ⟨tv, hiv⟩ := hv.at (i := r5) (a := ss[r5]) (List.getElem?_eq_getElem hr5)
              have hvl := hsz ss[r5] (List.getElem_mem hr5)
              refine itemL F (items := ys.toArray) (x := .str (S ss[r5]) tv) (Heap.PlainList.isList (F.get (x := .list _) (.tail _ (.head _)))) (by omega) (by rw [List.size_toArray]; omega) (by rw [Int.toNat_natCast]; simpa using hiv) ?_
              refine addS F (by omega) ?_
              clear F; intro tad s F
              walk_at "go"
              exact ⟨rfl, _, _, oP8, k8 + 1, by rw [List.length_append]; omega, ho8, by omega, F.as _ ⟨rfl, rfl, rfl, rfl, rfl, trivial⟩⟩
            · walk_at "go"
              rw [if_neg (by decide)]
              walk_at "go"
              exact ⟨rfl, _, _, oP8, k8, by omega, ho8, by omega, F.as _ ⟨rfl, rfl, rfl, rfl, rfl, trivial⟩⟩
          · walk_at "go"
            rw [if_neg (by decide)]
            walk_at "go"
            exact ⟨rfl, _, _, oP8, k8, by omega, ho8, by omega, F.as _ ⟨rfl, rfl, rfl, rfl, rfl, trivial⟩⟩
        · clear F; rintro f s ⟨rfl, wd, tw, oP9, k9, hwl, ho9, hk9, F⟩
          walk_at "go"
          refine ninLs (xs := ys.toArray) (Heap.PlainList.isList (F.get (x := .list _) (.tail _ (.head _)))) (by simpa using hv) ?_
          walk_at "go"
          split
          · rename_i hin
            have hin : wd ∉ ss := of_decide_eq_true hin
            walk_at "go"
            refine gmApp (F.get (x := .list ys.toArray) (.tail _ (.head _))) ?_
            walk_at "go"
            refine appL F [(I, .raw oI)] _ rfl (by rw [List.size_toArray]; omega) ?_
            clear F; intro s F
            walk_at "go"
            exact ⟨_, _, F, ⟨rfl, rfl, rfl, trivial⟩, ys ++ [.str (S wd) tw], ss ++ [wd], oP9, k9, hv.snoc _ _, fun _ => by simp, List.nodup_append.mpr ⟨hnd, by simp, fun x hx y hy => by rw [List.mem_singleton.mp hy]; exact fun q => hin (q ▸ hx)⟩, by simp; omega, fun x hx => by
              rcases List.mem_append.mp hx with hx | hx
              · have := hsz x hx; omega
              · rw [List.mem_singleton.mp hx]; omega, ho9, by omega, by simp⟩
          · rename_i hin
            have hin : wd ∈ ss := by simpa using hin
            walk_at "go"
            exact ⟨_, _, F, ⟨rfl, rfl, rfl, trivial⟩, ys, ss, oP9, k9, hv, fun _ q => (by rw [q] at hin; cases hin), hnd, by omega, fun x hx => by have := hsz x hx; omega, ho9, by omega, rfl⟩
  · rintro m nw s ⟨hm', ys, ss, oP3, k3, hv, hne, hnd, hlen, hsz, ho3, hk3, rfl⟩ F
    replace F := F.as [("found", .ref a), ("signs", .str (S σ) tσ), ("state", .ref P)] ⟨hm'.1, hm'.2.1, hm'.2.2.1, trivial⟩
    walk_at "go"
    refine ⟨_, rfl, ⟨a, ys.toArray, ss, rfl, (F.own (a, .list ys.toArray) (.head _)).elim (fun h => absurd h.1 (by have h := F.nd; simp at h ⊢; intro q; subst q; simp at h)) id, F.get (x := .list _) (.head _), by simpa using hv, hne (by omega), hnd, by omega, fun x hx => by have := hsz x hx; omega⟩, ⟨k3, by omega, ?_⟩, F.ext⟩
    obtain ⟨hc, t, n, hd⟩ := ho3
    exact ⟨⟨t, oP3, F.get (x := .raw oP3) (.tail _ (.tail _ (.head _))), hc, n, hd⟩, hlN F, hnum⟩

theorem Fs.own0 {g s : Shared} {L : Addr} {m : Str → Option Value} {news : List (Addr × Sh)} (F : Fs [] g L m news s) {p : Addr × Sh} (h : p ∈ news) : g.heap.objs.size ≤ p.1 := (F.own p h).elim (fun h => nomatch h.1) id
theorem l93 : (Str.ofString "]").cps.toList = [93] := by decide +kernel
theorem l92 : (Str.ofString "\\").cps.toList = [92] := by decide +kernel
theorem cs_93 : 93 ∈ csSet := by decide +kernel
theorem cs_92 : 92 ∈ csSet := by decide +kernel
theorem l_cs {c : Nat} (h : c ∉ csSet) : c ∉ (Str.ofString "[^-").cps.toList := fun q => h (by
  have e : (Str.ofString "[^-").cps.toList = [91, 94, 45] := by decide +kernel
  have e2 : csSet = [91, 94, 92, 45, 93] := by decide +kernel
  rw [e] at q; rw [e2]
  simp at q ⊢
  omega)
theorem k_lawset (w : World) : ∃ pm, (KK w).lookup 194 = some ⟨.type "function", none, .func (fdI 21 "_law_set" pm (.ref 193)), #[]⟩ := ⟨_, rfl⟩
theorem csC_head {c : Nat} {l : List Nat} : ∃ d m, csC c ++ l = d :: m ∧ ((d = 92 ∧ c ∈ csSet ∧ m = c :: l) ∨ (d = c ∧ c ∉ csSet ∧ m = l)) := by
  unfold csC
  split
  · exact ⟨92, c :: l, rfl, .inl ⟨rfl, ‹_›, rfl⟩⟩
  · exact ⟨c, l, rfl, .inr ⟨rfl, ‹_›, rfl⟩⟩
theorem lawset_spec {w : World} {A : Around} {g : Shared} (C : Cx A 2 40) (W : Wo (KK w) g.heap) {T : List Nat} {tT tp : Tok} {p : Nat} {cs l : List Nat} (hT : T.length ≤ 100000) (hd : T.drop p = cs.flatMap csC ++ 93 :: l) (hc : cs.length ≤ 1000) :
    codeAny (model pw w) A (.call (.ref 194) ⟨[.str (S T) tT, .int p tp], []⟩) (Ret fun v s' => (∃ T' a ys t, v = .ref T' ∧ g.heap.objs.size ≤ T' ∧ g.heap.objs.size ≤ a ∧ T' ≠ a ∧ s'.heap.get? T' = some (seqObj "tuple" #[.ref a, .int ((p + (cs.flatMap csC).length : Nat) : Int) t] 0) ∧ s'.heap.PlainList a ys ∧ SV ys.toList (cs.map fun c => [c])) ∧ Ext [] g s') g := by
  obtain ⟨pm, hk⟩ := k_lawset w
  refine callK [] (d := 1) (u := 37) C W hk (by kernel_rfl) rfl (BindsTo.of_eq (binds := [("text", .str (S T) tT), ("at", .int p tp)]) rfl) rfl rfl rfl rfl rfl fun s C X F => ?_
  have hD : okD tabP kmax [] := ok0
  show wpAny _ _ (execs (_ :: _) _) _ _ _
  walk_at "go"
  refine newL F (by simp) ?_
  clear F; intro a s F ha
  walk_at "go"
  refine wpAny_While ?_
  refine codeAny_whileLoop (fun n s => ∃ (done rest : List Nat) (q : Nat) (tq : Tok) (ys : List Value), n = rest.length ∧ cs = done ++ rest ∧ T.drop q = rest.flatMap csC ++ 93 :: l ∧ q + (rest.flatMap csC).length = p + (cs.flatMap csC).length ∧ SV ys (done.map fun c => [c]) ∧
    Fs [] g g.heap.objs.size (lk [("text", .str (S T) tT), ("at", .int q tq), ("found", .ref a)]) [(a, .list ys.toArray)] s) ?_ cs.length ⟨[], cs, p, tp, [], rfl, rfl, hd, rfl, .nil, F.as _ ⟨rfl, rfl, rfl, trivial⟩⟩
  clear F
  rintro n s ⟨done, rest, q, tq, ys, rfl, rfl, hdr, hq, hv, F⟩
  have hat : ∀ {i d : Nat} {m : List Nat}, T.drop i = d :: m → T[i]? = some d := fun {i d m} e => by
    have := congrArg List.head? e
    rwa [List.head?_drop] at this
  have hne : ∀ {i d : Nat} {m : List Nat}, T.drop i = d :: m → T.drop (i + 1) = m := fun {i d m} e => by
    have := congrArg List.tail e
    rwa [List.tail_drop] at this
  cases rest with
  | nil =>
    walk_at "go"
    refine itemS F (c := 93) (by omega) (by omega) (by rw [Int.toNat_natCast]; exact hat hdr) ?_
    clear F; intro tc s F
    walk_at "go"
    rw [l93, if_neg (by decide)]
    walk_at "go"
    refine newT F (by simp) ?_
    clear F; intro T' s F hT'
    walk_at "go"
    have hqe : q = p + ((done ++ []).flatMap csC).length := by simpa using hq
    have hnd := F.nd
    refine ⟨_, rfl, ⟨T', a, ys.toArray, tq, rfl, F.own0 (.head _), F.own0 (.tail _ (.head _)), fun e => ?_, ?_, F.get (x := .list _) (.tail _ (.head _)), by simpa using hv⟩, F.ext⟩
    · subst e; simp at hnd
    · rw [← hqe]; exact F.get (x := .raw _) (.head _)
  | cons c rest =>
    rw [List.flatMap_cons, List.append_assoc] at hdr
    obtain ⟨d, m, e, hc'⟩ := csC_head (c := c) (l := rest.flatMap csC ++ 93 :: l)
    rw [e] at hdr
    have hd93 : d ≠ 93 := by
      rcases hc' with ⟨rfl, _⟩ | ⟨rfl, h, _⟩
      · decide
      · exact fun q => h (q ▸ cs_93)
    walk_at "go"
    refine itemS F (c := d) (by omega) (by omega) (by rw [Int.toNat_natCast]; exact hat hdr) ?_
    clear F; intro tc s F
    walk_at "go"
    rw [l93, if_pos (by simpa using hd93)]
    walk_at "go"
    refine itemS F (c := d) (by omega) (by omega) (by rw [Int.toNat_natCast]; exact hat hdr) ?_
    clear F; intro tc s F
    walk_at "go"
    rw [l92]
    rcases hc' with ⟨rfl, hin, rfl⟩ | ⟨rfl, hin, rfl⟩
    · rw [if_pos (by decide)]
      walk_at "go"
      refine gmApp (F.get (x := .list ys.toArray) (.head _)) ?_
      walk_at "go"
      rw [show (q : Int) + 1 = ((q + 1 : Nat) : Int) by omega]
      refine itemS F (c := c) (by omega) (by omega) (by rw [Int.toNat_natCast]; exact hat (hne hdr)) ?_
      clear F; intro tc' s F
      walk_at "go"
      have hyl : ys.length ≤ 1000 := by have := hv.len; simp at this hc; omega
      refine appL F [] _ rfl (by rw [List.size_toArray]; omega) ?_
      clear F; intro s F
      walk_at "go"
      obtain ⟨tq', F⟩ : ∃ tq', Fs [] g g.heap.objs.size (lk [("text", .str (S T) tT), ("at", .int ((q + 2 : Nat) : Int) tq'), ("found", .ref a)]) [(a, .list (ys ++ [Value.str (S [c]) tc']).toArray)] s := ⟨_, by
        rw [show (q : Int) + 1 + 1 = ((q + 2 : Nat) : Int) by omega, List.push_toArray] at F
        exact F.as _ ⟨rfl, rfl, rfl, trivial⟩⟩
      refine ⟨rest.length, by simp, done ++ [c], rest, q + 2, tq', ys ++ [.str (S [c]) tc'], rfl, by simp, hne (hne hdr), ?_, by rw [List.map_append]; exact hv.snoc _ _, F⟩
      · rw [← hq, List.flatMap_cons, List.length_append]
        have : (csC c).length = 2 := by unfold csC; rw [if_pos hin]; rfl
        omega
    · rw [if_neg (by simp; rintro rfl; exact hin cs_92)]
      walk_at "go"
      rw [if_neg (by simpa using l_cs hin)]
      walk_at "go"
      refine gmApp (F.get (x := .list ys.toArray) (.head _)) ?_
      walk_at "go"
      have hyl : ys.length ≤ 1000 := by have := hv.len; simp at this hc; omega
      refine appL F [] _ rfl (by rw [List.size_toArray]; omega) ?_
      clear F; intro s F
      walk_at "go"
      obtain ⟨tq', F⟩ : ∃ tq', Fs [] g g.heap.objs.size (lk [("text", .str (S T) tT), ("at", .int ((q + 1 : Nat) : Int) tq'), ("found", .ref a)]) [(a, .list (ys ++ [Value.str (S [d]) tc]).toArray)] s := ⟨_, by
        rw [show (q : Int) + 1 = ((q + 1 : Nat) : Int) by omega, List.push_toArray] at F
        exact F.as _ ⟨rfl, rfl, rfl, trivial⟩⟩
      refine ⟨rest.length, by simp, done ++ [d], rest, q + 1, tq', ys ++ [.str (S [d]) tc], rfl, by simp, hne hdr, ?_, by rw [List.map_append]; exact hv.snoc _ _, F⟩
      · rw [← hq, List.flatMap_cons, List.length_append]
        have : (csC d).length = 1 := by unfold csC; rw [if_neg hin]; rfl
        omega

theorem escSet_e : escSet = [40, 41, 91, 93, 123, 125, 63, 42, 43, 45, 124, 94, 36, 92, 46, 38, 126, 35, 32, 9, 10, 13, 11, 12] := by decide +kernel
theorem RdB.less {l l' : List Nat} {ts : List (List Nat)} (h : RdB l ts l') : l'.length < l.length := by
  cases h with
  | esc c => simp; omega
  | lit => simp
  | set => simp only [csOf, List.length_append, List.length_cons, List.length_nil]; omega
theorem RdL.less {I : List Nat → List (List Nat) → List Nat → Prop} (hI : ∀ l ts l', I l ts l' → l'.length < l.length) {l l' : List Nat} {D R out : List (List Nat)} (h : RdL I l D R out l') : l'.length ≤ l.length := by
  induction h with
  | stop => exact Nat.le_refl _
  | bar _ _ ih => simp; omega
  | item h _ _ _ _ ih => have := hI _ _ _ h; omega
  | opt h _ _ _ ih => have := hI _ _ _ h; simp at this; omega
theorem RdI.less : ∀ {k : Nat} {l : List Nat} {ts : List (List Nat)} {l' : List Nat}, RdI k l ts l' → l'.length < l.length
  | 0, _, _, _, h => RdB.less h
  | k + 1, _, _, _, h => by
    rcases h with h | ⟨b, m, rfl, hm, h⟩
    · exact RdB.less h
    · have h2 := h.less fun _ _ _ => RdI.less
      rcases hm with rfl | ⟨rfl, _⟩ <;> simp at h2 ⊢ <;> omega
theorem RdB.first {l l' : List Nat} {ts : List (List Nat)} (h : RdB l ts l') : ∃ c m, l = c :: m ∧ c ≠ 41 ∧ c ≠ 124 := by
  cases h with
  | esc c => exact ⟨_, _, rfl, by decide, by decide⟩
  | lit l h => refine ⟨_, _, rfl, ?_, ?_⟩ <;> (rintro rfl; exact h (by rw [escSet_e]; decide))
  | set => exact ⟨91, _, rfl, by decide, by decide⟩
theorem RdI.first : ∀ {k : Nat} {l : List Nat} {ts : List (List Nat)} {l' : List Nat}, RdI k l ts l' → ∃ c m, l = c :: m ∧ c ≠ 41 ∧ c ≠ 124
  | 0, _, _, _, h => RdB.first h
  | k + 1, _, _, _, h => by
    rcases h with h | ⟨b, m, rfl, _⟩
    · exact RdB.first h
    · exact ⟨40, m, rfl, by decide, by decide⟩
theorem RdI.inv : ∀ {k : Nat} {l : List Nat} {ts : List (List Nat)} {l' : List Nat}, RdI k l ts l' → RdB l ts l' ∨ ∃ j b m, k = j + 1 ∧ l = 40 :: m ∧ (m = 63 :: 58 :: b ∨ (m = b ∧ b.take 2 ≠ [63, 58])) ∧ RdL (RdI j) b [] [[]] ts (41 :: l')
  | 0, _, _, _, h => .inl h
  | k + 1, _, _, _, h => by
    rcases h with h | ⟨b, m, h⟩
    · exact .inl h
    · exact .inr ⟨k, b, m, rfl, h⟩
theorem RdB.inv {c : Nat} {l l' : List Nat} {ts : List (List Nat)} (h : RdB (c :: l) ts l') : (c = 92 ∧ ∃ d, l = d :: l' ∧ ts = [[d]]) ∨ (c ∉ escSet ∧ ts = [[c]] ∧ l = l') ∨ (c = 91 ∧ ∃ cs : List Nat, cs.length ≤ 1000 ∧ l = cs.flatMap csC ++ 93 :: l' ∧ ts = cs.map fun c => [c]) := by
  generalize e : c :: l = x at h
  cases h with
  | esc d => cases e; exact .inl ⟨rfl, d, rfl, rfl⟩
  | lit _ h => cases e; exact .inr (.inl ⟨h, rfl, rfl⟩)
  | set _ h =>
    simp only [csOf, List.cons_append, List.nil_append, List.append_assoc, List.cons.injEq] at e
    exact .inr (.inr ⟨e.1, _, h, e.2, rfl⟩)
theorem led_in {α : Type} (x y c : α) (pre X r : List α) : (pre ++ c :: ((x :: y :: X) ++ r)).Perm (x :: y :: (pre ++ c :: (X ++ r))) := by
  have h1 := (List.perm_middle (l₁ := pre ++ [c]) (a := x) (l₂ := y :: (X ++ r)))
  have h2 := (List.perm_middle (l₁ := pre ++ [c]) (a := y) (l₂ := X ++ r)).cons x
  have := h1.trans h2
  simpa using this
theorem led_out {α : Type} (t c a b : α) (X T : List α) : (a :: b :: t :: c :: (X ++ T)).Perm (t :: c :: (X ++ a :: b :: T)) := by
  have h1 := (List.perm_middle (l₁ := t :: c :: X) (a := a) (l₂ := b :: T))
  have h2 := (List.perm_middle (l₁ := t :: c :: X) (a := b) (l₂ := T)).cons a
  exact (h1.trans h2).symm
theorem flat_ones : ∀ cs : List Nat, cs.map (fun c => [c]) = (cs.map fun c => [[c]]).flatten
  | [] => rfl
  | c :: r => by rw [List.map_cons, List.map_cons, List.flatten_cons, ← flat_ones r]; rfl
def ReadAt (w : World) (k : Nat) : Prop := ∀ {A : Around} {g : Shared}, Cx A (k + 4) (30 * k + 100) → Wo (KK w) g.heap → ∀ {T l l' : List Nat} {out : List (List Nat)} {tT tp : Tok} {p : Nat}, T.length ≤ 100000 → T.drop p = l → p ≤ T.length → RdL (RdI k) l [] [[]] out l' →
  codeAny (model pw w) A (.call (.ref 187) ⟨[.str (S T) tT, .int p tp], []⟩) (Ret fun v s' => (∃ (b : Addr) (y : Value) (q : Nat) (t : Tok) (Tl : Led), v = .ref b ∧ s'.heap.get? b = some (seqObj "tuple" #[y, .int q t] 0) ∧ T.drop q = l' ∧ q ≤ T.length ∧ Made g s' Tl ∧ RowsAt (RepI Tl (2 * k + 3)) Tl y out) ∧ Ext [] g s') g
theorem k_lawread (w : World) : ∃ pm, (KK w).lookup 187 = some ⟨.type "function", none, .func (fdI 20 "_law_read" pm (.ref 186)), #[]⟩ := ⟨_, rfl⟩
theorem l41 : (Str.ofString ")").cps.toList = [41] := by decide +kernel
theorem l124 : (Str.ofString "|").cps.toList = [124] := by decide +kernel
theorem l40 : (Str.ofString "(").cps.toList = [40] := by decide +kernel
theorem l91 : (Str.ofString "[").cps.toList = [91] := by decide +kernel
theorem l6358 : (Str.ofString "?:").cps.toList = [63, 58] := by decide +kernel
theorem l63 : (Str.ofString "?").cps.toList = [63] := by decide +kernel
theorem l_esc {c : Nat} (h : c ∉ escSet) : c ∉ (Str.ofString ".^$*+?{}]#- \n").cps.toList := fun q => h (by
  have e : (Str.ofString ".^$*+?{}]#- \n").cps.toList = [46, 94, 36, 42, 43, 63, 123, 125, 93, 35, 45, 32, 10] := by decide +kernel
  rw [e] at q; rw [escSet_e]
  simp at q ⊢
  omega)
abbrev envR (pm : Value) (g : Shared) : Env := callEnv (fdI 20 "_law_read" pm (.ref 186)) g.heap.objs.size 187
theorem foldl_snoc {α β : Type} (f : β → α → β) (b : β) (l : List α) (x : α) : (l ++ [x]).foldl f b = f (l.foldl f b) x := by simp
theorem few_take {tss : List (List (List Nat))} {ts : List (List Nat)} (h : ∀ i, Few ((tss.take i).foldl prod [[]])) (h1 : Few (prod (tss.foldl prod [[]]) ts)) : ∀ i, Few (((tss ++ [ts]).take i).foldl prod [[]]) := fun i => by
  rcases Nat.lt_or_ge tss.length i with q | q
  · rw [List.take_of_length_le (by simp; omega), foldl_snoc]; exact h1
  · rw [List.take_append_of_le_length q]; exact h i
theorem read_step {w : World} (k : Nat) (ih : ∀ j, k = j + 1 → ReadAt w j) : ReadAt w k := by
  intro A g C W T l l' out tT tp p hT hp hpl hR
  obtain ⟨pm, hk⟩ := k_lawread w
  refine callK [] (d := k + 3) (u := 30 * k + 97) C W hk (by kernel_rfl) rfl (BindsTo.of_eq (binds := [("text", .str (S T) tT), ("at", .int p tp)]) rfl) rfl rfl rfl rfl rfl fun s C X F => ?_
  have hD := ok0
  show wpAny _ _ (execs (_ :: _) _) _ _ _
  walk_at "go"
  refine Assign_Tuple_swapped (names := ["rows", "row"]) ?_
  walk_at "go"
  refine newL F (by simp) ?_
  clear F; intro b s F hb
  walk_at "go"
  refine newL F (by simp) ?_
  clear F; intro a s F ha
  walk_at "go"
  refine newT F (by simp) ?_
  clear F; intro T0 s F hT0
  refine unpB C.hh F (F.get (x := .raw _) (.head _)) ?_
  clear F; intro s F
  walk_at "go"
  replace F := F.drop (List.sublist_cons_self _ _)
  refine wpAny_While ?_
  refine codeAny_whileLoop (fun n s => ∃ (l : List Nat) (q : Nat) (tq : Tok) (its rs : List Value) (tss Rs : List (List (List Nat))) (a : Addr) (Tl : Led), n = l.length ∧ T.drop q = l ∧ q ≤ T.length ∧ RdL (RdI k) l Rs.flatten (tss.foldl prod [[]]) out l' ∧
    Each (RepI Tl (2 * k + 3)) its tss ∧ Each (RowAt (RepI Tl (2 * k + 3)) Tl) rs Rs ∧ (∀ i, Few ((tss.take i).foldl prod [[]])) ∧ its.length + l.length ≤ 100000 ∧ rs.length + l.length ≤ 100000 ∧
    Fs [] g g.heap.objs.size (lk [("text", .str (S T) tT), ("at", .int q tq), ("rows", .ref b), ("row", .ref a)]) ((a, .list its.toArray) :: (b, .list rs.toArray) :: Tl) s) ?_ l.length
    ⟨l, p, tp, [], [], [], [], a, [], rfl, hp, hpl, hR, .nil, .nil, fun i => by simp; exact ⟨by simp, by simp⟩, by rw [← hp]; simp; omega, by rw [← hp]; simp; omega, F.as _ ⟨rfl, rfl, rfl, rfl, trivial⟩⟩
  clear F hp hpl hR p tp a ha
  rintro n s ⟨l, q, tq, its, rs, tss, Rs, a, Tl, rfl, hq, hql, hR, hits, hrs, hfew, hil, hrl, F⟩
  have hat : ∀ {i d : Nat} {m : List Nat}, T.drop i = d :: m → T[i]? = some d := fun {i d m} e => by
    have := congrArg List.head? e
    rwa [List.head?_drop] at this
  have hne : ∀ {i d : Nat} {m : List Nat}, T.drop i = d :: m → T.drop (i + 1) = m := fun {i d m} e => by
    have := congrArg List.tail e
    rwa [List.tail_drop] at this
  have hlt : ∀ {i d : Nat} {m : List Nat}, T.drop i = d :: m → i < T.length := fun {i d m} e => by
    have := congrArg List.length e
    simp at this; omega
  refine wpAny_mono (Q := fun bb s' => bb = (!decide (l = [] ∨ l.head? = some 41)) ∧ Fs [] g g.heap.objs.size (lk [("text", .str (S T) tT), ("at", .int q tq), ("rows", .ref b), ("row", .ref a)]) ((a, .list its.toArray) :: (b, .list rs.toArray) :: Tl) s') (E := fun _ _ => False) ?_ ?_ (fun _ _ h => h.elim)
  · walk_at "go"
    refine lenS F (by omega) ?_
    clear F; intro tl s F
    walk_at "go"
    cases l with
    | nil =>
      have : T.length ≤ q := by simpa using hq
      rw [if_neg (by simp; omega)]
      exact ⟨rfl, F⟩
    | cons c l =>
      have := hlt hq
      rw [if_pos (by simp; omega)]
      walk_at "go"
      refine itemS F (c := c) (by omega) (by omega) (by rw [Int.toNat_natCast]; exact hat hq) ?_
      clear F; intro tc s F
      walk_at "go"
      rw [l41]
      by_cases h41 : c = 41
      · subst h41
        rw [if_neg (by decide)]
        exact ⟨rfl, F⟩
      · rw [if_pos (by simpa using h41)]
        walk_at "go"
        exact ⟨by simp [h41], F⟩
  clear F
  rintro bb s ⟨rfl, F⟩
  by_cases hstop : l = [] ∨ l.head? = some 41
  · rw [show (!decide (l = [] ∨ l.head? = some 41)) = false by simp [hstop]]
    rw [if_neg (by decide)]
    walk_at "go"
    have hout : l' = l ∧ out = Rs.flatten ++ tss.foldl prod [[]] ∧ Few out := by
      cases hR with
      | stop _ hf => exact ⟨rfl, rfl, hf⟩
      | bar => simp at hstop
      | item h => obtain ⟨c, m, rfl, h1, _⟩ := h.first; simp [h1] at hstop
      | opt h => obtain ⟨c, m, rfl, h1, _⟩ := h.first; simp [h1] at hstop
    obtain ⟨rfl, rfl, hfo⟩ := hout
    refine newL F (by simp) fun c s F hc => ?_
    refine addL F (F.get (x := .list _) (.tail _ (.tail _ (.head _)))) (F.get (x := .list _) (.head _)) (by simp; omega) fun e s F he => ?_
    walk_at "go"
    refine newT F (by simp) fun f s F hf => ?_
    walk_at "go"
    have hTl : ∀ p ∈ Tl, p ∈ (e, Sh.list (rs ++ [Value.ref a]).toArray) :: (a, Sh.list its.toArray) :: Tl := fun p hp => .tail _ (.tail _ hp)
    refine ⟨_, rfl, ⟨f, .ref e, q, tq, (e, Sh.list (rs ++ [Value.ref a]).toArray) :: (a, Sh.list its.toArray) :: Tl, rfl, F.get (x := .raw _) (.head _), hq, hql, ?_, ?_⟩, F.ext⟩
    · have h1 := F.made (T := (e, Sh.list (rs ++ [Value.ref a]).toArray) :: (a, Sh.list its.toArray) :: Tl) (by
        rw [show rs.toArray ++ [Value.ref a].toArray = (rs ++ [Value.ref a]).toArray by simp]
        exact .cons _ (.cons_cons _ (.cons _ (.cons_cons _ (.cons _ (.refl _))))))
      exact h1
    · refine ⟨e, rs ++ [.ref a], Rs ++ [tss.foldl prod [[]]], rfl, .head _, ?_, by simp, hfo, by simp; omega⟩
      refine (hrs.mono fun v R h => h.mono hTl (RepI.more hTl _)).snoc ?_
      exact ⟨a, its, tss, rfl, .tail _ (.head _), hits.mono (RepI.more hTl _), rfl, hfew, by omega⟩
  · rw [show (!decide (l = [] ∨ l.head? = some 41)) = true by simp [hstop]]
    rw [if_pos rfl]
    obtain ⟨c, l, rfl⟩ : ∃ c m, l = c :: m := by cases l with | nil => simp at hstop | cons c m => exact ⟨c, m, rfl⟩
    have hlq := hlt hq
    have hstep : (c = 124 ∧ Few (Rs.flatten ++ tss.foldl prod [[]]) ∧ RdL (RdI k) l (Rs.flatten ++ tss.foldl prod [[]]) [[]] out l') ∨ (c ≠ 124 ∧ ∃ ts lx, RdI k (c :: l) ts lx ∧ Few ts ∧
        ((lx.head? ≠ some 63 ∧ Few (prod (tss.foldl prod [[]]) ts) ∧ RdL (RdI k) lx Rs.flatten (prod (tss.foldl prod [[]]) ts) out l') ∨
          (∃ l2, lx = 63 :: l2 ∧ Few (ts ++ [[]]) ∧ Few (prod (tss.foldl prod [[]]) (ts ++ [[]])) ∧ RdL (RdI k) l2 Rs.flatten (prod (tss.foldl prod [[]]) (ts ++ [[]])) out l'))) := by
      cases hR with
      | stop h => exact absurd h hstop
      | bar h1 h2 => exact .inl ⟨rfl, h1, h2⟩
      | item h h1 h2 h3 h4 => obtain ⟨c', m, e, _, h5⟩ := h.first; cases e; exact .inr ⟨h5, _, _, h, h2, .inl ⟨h1, h3, h4⟩⟩
      | opt h h2 h3 h4 => obtain ⟨c', m, e, _, h5⟩ := h.first; cases e; exact .inr ⟨h5, _, _, h, h2.left, .inr ⟨_, rfl, h2, h3, h4⟩⟩
    walk_at "go"
    refine itemS F (c := c) (by omega) (by omega) (by rw [Int.toNat_natCast]; exact hat hq) ?_
    clear F; intro tc s F
    walk_at "go"
    rw [l124]
    rcases hstep with ⟨rfl, hf, hR⟩ | ⟨h124, ts, lx, hI, hft, hnext⟩
    · rw [if_pos (by decide)]
      walk_at "go"
      refine gmApp (F.get (x := .list rs.toArray) (.tail _ (.head _))) ?_
      walk_at "go"
      refine appL F [_] _ rfl (by rw [List.size_toArray]; omega) ?_
      clear F; intro s F
      walk_at "go"
      refine newL F (by simp) fun a2 s F ha2 => ?_
      walk_at "go"
      have hTl : ∀ p ∈ Tl, p ∈ (a, Sh.list its.toArray) :: Tl := fun p hp => .tail _ hp
      obtain ⟨tq', F⟩ : ∃ tq', Fs [] g g.heap.objs.size (lk [("text", .str (S T) tT), ("at", .int ((q + 1 : Nat) : Int) tq'), ("rows", .ref b), ("row", .ref a2)]) ((a2, .list ([] : List Value).toArray) :: (b, .list (rs ++ [Value.ref a]).toArray) :: (a, .list its.toArray) :: Tl) s := ⟨_, by
        rw [show (q : Int) + 1 = ((q + 1 : Nat) : Int) by omega, List.push_toArray] at F
        exact (F.perm (.cons _ (.swap ..))).as _ ⟨rfl, rfl, rfl, rfl, trivial⟩⟩
      refine ⟨l.length, by simp, l, q + 1, tq', [], rs ++ [.ref a], [], Rs ++ [tss.foldl prod [[]]], a2, (a, .list its.toArray) :: Tl, rfl, hne hq, hlt hq, by simpa using hR, .nil, ?_, fun i => by simp; exact ⟨by simp, by simp⟩, by simp at hrl ⊢; omega, by simp at hrl ⊢; omega, F⟩
      refine (hrs.mono fun v R h => h.mono hTl (RepI.more hTl _)).snoc ?_
      exact ⟨a, its, tss, rfl, .head _, hits.mono (RepI.more hTl _), rfl, hfew, by simp at hil; omega⟩
    · rw [if_neg (by simpa using h124)]
      refine wpAny_execs_cons (wpAny_mono (Q := fun f s' => f = Flow.next ∧ ∃ (q2 : Nat) (tq2 : Tok) (v : Value) (Tl' : Led), (∀ p ∈ Tl, p ∈ Tl') ∧ RepI Tl' (2 * k + 2) v ts ∧ T.drop (q2 + 1) = lx ∧ q2 + 1 ≤ T.length ∧
        Fs [] g g.heap.objs.size (lk [("text", .str (S T) tT), ("at", .int q2 tq2), ("rows", .ref b), ("row", .ref a), ("item", v)]) ((a, .list its.toArray) :: (b, .list rs.toArray) :: Tl') s') (E := fun _ _ => False) ?_ ?_ (fun _ _ h => h.elim))
      · walk_at "go"
        rw [l40]
        rcases hI.inv with hB | ⟨j, b', m', rfl, hc, hm, hL⟩
        · have h40 : c ≠ 40 := by
            rcases hB.inv with ⟨rfl, _⟩ | ⟨h, _⟩ | ⟨rfl, _⟩
            · decide
            · rintro rfl; exact h (by rw [escSet_e]; decide)
            · decide
          rw [if_neg (by simpa using h40)]
          walk_at "go"
          rw [l91]
          rcases hB.inv with ⟨rfl, d, rfl, rfl⟩ | ⟨hesc, rfl, rfl⟩ | ⟨rfl, cs, hcs, rfl, rfl⟩
          · rw [if_neg (by decide)]
            walk_at "go"
            rw [l92, if_pos (by decide)]
            walk_at "go"
            rw [show (q : Int) + 1 = ((q + 1 : Nat) : Int) by omega] at F ⊢
            refine itemS F (c := d) (by omega) (by omega) (by rw [Int.toNat_natCast]; exact hat (hne hq)) ?_
            clear F; intro td s F
            walk_at "go"
            refine newT F (by simp) fun T2 s F hT2 => ?_
            walk_at "go"
            obtain ⟨tq', F⟩ : ∃ tq', Fs [] g g.heap.objs.size (lk [("text", .str (S T) tT), ("at", .int ((q + 1 : Nat) : Int) tq'), ("rows", .ref b), ("row", .ref a), ("item", .ref T2)]) ((a, .list its.toArray) :: (b, .list rs.toArray) :: (T2, Sh.raw (seqObj "tuple" #[Value.str (S lone) t, Value.str (S [d]) td] 0)) :: Tl) s := ⟨_, (F.perm (List.perm_middle (l₁ := [_, _]))).as _ ⟨rfl, rfl, rfl, rfl, rfl, trivial⟩⟩
            exact ⟨rfl, q + 1, tq', .ref T2, _, fun p hp => .tail _ hp, ⟨T2, _, _, rfl, .head _, hft, .inl ⟨_, [d], td, rfl, rfl, rfl⟩⟩, hne (hne hq), hlt (hne hq), F⟩
          · have h91 : c ≠ 91 := by rintro rfl; exact hesc (by rw [escSet_e]; decide)
            have h92 : c ≠ 92 := by rintro rfl; exact hesc (by rw [escSet_e]; decide)
            rw [if_neg (by simpa using h91)]
            walk_at "go"
            rw [l92, if_neg (by simpa using h92)]
            walk_at "go"
            rw [if_neg (by simpa using l_esc hesc)]
            walk_at "go"
            refine newT F (by simp) fun T2 s F hT2 => ?_
            walk_at "go"
            obtain ⟨tq', F⟩ : ∃ tq', Fs [] g g.heap.objs.size (lk [("text", .str (S T) tT), ("at", .int ((q : Nat) : Int) tq'), ("rows", .ref b), ("row", .ref a), ("item", .ref T2)]) ((a, .list its.toArray) :: (b, .list rs.toArray) :: (T2, Sh.raw (seqObj "tuple" #[Value.str (S lone) t, Value.str (S [c]) tc] 0)) :: Tl) s := ⟨_, (F.perm (List.perm_middle (l₁ := [_, _]))).as _ ⟨rfl, rfl, rfl, rfl, rfl, trivial⟩⟩
            exact ⟨rfl, q, tq', .ref T2, _, fun p hp => .tail _ hp, ⟨T2, _, _, rfl, .head _, hft, .inl ⟨_, [c], tc, rfl, rfl, rfl⟩⟩, hne hq, hlq, F⟩
          · rw [if_pos (by decide)]
            walk_at "go"
            rw [show (q : Int) + 1 = ((q + 1 : Nat) : Int) by omega]
            refine use (lawset_spec (C.mono (by omega) (by omega)) (W.ext (small _) hD F.ext) hT (hne hq) hcs) fun v s' hv => ?_
            obtain ⟨⟨T3, a3, ys, t3, rfl, hT3, ha3, hne3, htp, hl3, hv3⟩, X'⟩ := hv
            have F2 := F.add (F.step X') ha3 (x := .list ys) hl3
            clear F
            walk_at "go"
            refine tup2 C.hh F2 htp ?_
            clear F2; intro s F
            walk_at "go"
            have hys : ys.size = cs.length := by rw [← Array.length_toList, hv3.len, List.length_map]
            obtain ⟨n3, F⟩ := F.raw [] _ rfl
            refine comp_eval F [] rfl (by decide) rfl (by decide) rfl ?_
            walk_at "go"
            refine compGX (a := a3) (items := ys) F C.hh (fun i zs nw => ∃ X : Led, nw = (a3, .raw (seqObj "list" ys n3)) :: (X ++ (a, Sh.list its.toArray) :: (b, Sh.list rs.toArray) :: Tl) ∧ Each (RowAt (RepI X 1) X) zs ((cs.take i).map fun c => [[c]])) (seqObj "list" ys n3) ?_ ⟨n3, F.get (x := .raw _) (.head _)⟩ (by omega) ⟨[], rfl, .nil⟩ ?_ ?_
            · rintro i zs C' mC pre nw s' ⟨X, rfl, _⟩ F'
              exact F'.get (x := .raw _) (List.mem_append_right _ (.head _))
            · rintro i v zs pre nw C' s' E' hv' ⟨X, rfl, hX⟩ F'
              clear F
              have F := F'
              walk_at "go"
              refine newT F (by simp) fun T2 s F hT2 => ?_
              walk_at "go"
              refine newL F (by simp) fun l2 s F hl2 => ?_
              obtain ⟨d, td, hd1, rfl⟩ := hv3.get (i := i) (v := v) (by simpa using hv')
              obtain ⟨c0, hc0, rfl⟩ : ∃ c0, cs[i]? = some c0 ∧ d = [c0] := by
                rw [List.getElem?_map] at hd1
                cases e : cs[i]? with
                | none => rw [e] at hd1; cases hd1
                | some c0 => rw [e] at hd1; exact ⟨c0, rfl, (Option.some.inj hd1).symm⟩
              have hmem : ∀ p ∈ X, p ∈ (l2, Sh.list [Value.ref T2].toArray) :: (T2, Sh.raw (seqObj "tuple" #[Value.str (S lone) t, Value.str (S [c0]) td] 0)) :: X := fun p hp => .tail _ (.tail _ hp)
              refine ⟨_, ⟨(l2, Sh.list [Value.ref T2].toArray) :: (T2, Sh.raw (seqObj "tuple" #[Value.str (S lone) t, Value.str (S [c0]) td] 0)) :: X, rfl, ?_⟩, F.perm (led_in ..)⟩
              rw [show (cs.take (i + 1)).map (fun c => [[c]]) = (cs.take i).map (fun c => [[c]]) ++ [[[c0]]] by rw [List.take_add_one, hc0]; simp]
              refine (hX.mono fun v R h => h.mono hmem (RepI.more hmem _)).snoc ?_
              have hf1 : Few [[c0]] := .one (by simp)
              refine ⟨l2, [.ref T2], [[[c0]]], rfl, .head _, .cons ⟨T2, _, _, rfl, .tail _ (.head _), hf1, .inl ⟨t, [c0], td, rfl, rfl, rfl⟩⟩ .nil, by simp [prod], fun i => ?_, by simp⟩
              cases i with
              | zero => simp; exact .one (by simp)
              | succ i => simpa [prod] using hf1
            · rintro acc zs nw s' hzs ⟨X, rfl, hX⟩ F'
              clear F
              have F := F'
              walk_at "go"
              refine newT F (by simp) fun T2 s F hT2 => ?_
              walk_at "go"
              rw [List.take_of_length_le (by omega)] at hX
              obtain ⟨tq', F⟩ : ∃ tq', Fs [] g g.heap.objs.size (lk [("text", .str (S T) tT), ("at", .int ((q + 1 + (cs.flatMap csC).length : Nat) : Int) tq'), ("rows", .ref b), ("row", .ref a), ("item", .ref T2)]) ((a, .list its.toArray) :: (b, .list rs.toArray) :: (T2, Sh.raw (seqObj "tuple" #[Value.str (S lor) t, Value.ref acc] 0)) :: (acc, .list zs.toArray) :: (X ++ Tl)) s := ⟨t3, ((F.drop (news' := _ :: _ :: (X ++ _ :: _ :: Tl)) (.cons_cons _ (.cons_cons _ (.cons _ (.refl _))))).perm (led_out ..)).as _ ⟨rfl, rfl, rfl, rfl, rfl, trivial⟩⟩
              have hmem : ∀ p ∈ X, p ∈ (T2, Sh.raw (seqObj "tuple" #[Value.str (S lor) t, Value.ref acc] 0)) :: (acc, Sh.list zs.toArray) :: (X ++ Tl) := fun p hp => .tail _ (.tail _ (List.mem_append_left _ hp))
              have hdr : T.drop (q + 1 + (cs.flatMap csC).length) = 93 :: lx := by
                rw [← List.drop_drop, hne hq, List.drop_left']
                rfl
              refine ⟨rfl, _, tq', .ref T2, _, fun p hp => .tail _ (.tail _ (List.mem_append_right _ hp)), ⟨T2, _, _, rfl, .head _, hft, .inr (.inl ⟨t, rfl, acc, zs, cs.map fun c => [[c]], rfl, .tail _ (.head _), ?_, ?_, hft, by omega⟩)⟩, hne hdr, hlt hdr, F⟩
              · exact hX.mono fun v R h => h.mono hmem fun v ts h => RepI.upTo (by omega) (RepI.more hmem _ _ _ h)
              · exact flat_ones cs
        · cases hc
          rw [if_pos (by decide)]
          iterate 7 walk_at "m"
          refine wpAny_execs_cons (wpAny_mono (Q := fun f s' => f = Flow.next ∧ ∃ (q3 : Nat) (tq3 : Tok), T.drop q3 = b' ∧ q3 ≤ T.length ∧
            Fs [] g g.heap.objs.size (lk [("text", .str (S T) tT), ("at", .int q tq), ("rows", .ref b), ("row", .ref a), ("start", .int q3 tq3)]) ((a, .list its.toArray) :: (b, .list rs.toArray) :: Tl) s') (E := fun _ _ => False) ?_ ?_ (fun _ _ h => h.elim))
          · walk_at "go"
            refine subS F ?_
            walk_at "go"
            refine ⟨T, tT, some ((q : Int) + 1), some ((q : Int) + 1 + 2), _, _, rfl, .int _ _, .int _ _, F, by omega, ?_⟩
            clear F; intro ts1 s F
            rw [show (q : Int) + 1 + 2 = ((q + 3 : Nat) : Int) by omega, show (q : Int) + 1 = ((q + 1 : Nat) : Int) by omega, sl_mid, hne hq, show q + 3 - (q + 1) = 2 by omega]
            walk_at "go"
            rw [l6358]
            rcases hm with rfl | ⟨rfl, hm⟩
            · rw [if_pos (by simp)]
              walk_at "go"
              rw [show (q : Int) + 1 + 2 = ((q + 3 : Nat) : Int) by omega] at F
              have h3 := hlt (hne (hne hq))
              exact ⟨rfl, q + 3, _, hne (hne (hne hq)), by omega, F.as _ ⟨rfl, rfl, rfl, rfl, rfl, trivial⟩⟩
            · rw [if_neg (by simpa using hm)]
              walk_at "go"
              rw [show (q : Int) + 1 = ((q + 1 : Nat) : Int) by omega] at F
              exact ⟨rfl, q + 1, _, hne hq, by omega, F.as _ ⟨rfl, rfl, rfl, rfl, rfl, trivial⟩⟩
          · clear F
            rintro f s ⟨rfl, q3, tq3, hq3, hq3l, F⟩
            walk_at "go"
            refine use (ih j rfl (C.mono (by omega) (by omega)) (W.ext (small _) hD F.ext) hT hq3 hq3l hL) fun v s' hv => ?_
            obtain ⟨⟨tp, y, q4, t4, Tn, rfl, htp, hq4, hq4l, hM, hrep⟩, X'⟩ := hv
            have F2 := F.adds (F.step X') hM
            clear F
            walk_at "go"
            refine tup2 C.hh F2 htp ?_
            clear F2; intro s F
            walk_at "go"
            refine newT F (by simp) fun T2 s F hT2 => ?_
            walk_at "go"
            obtain ⟨tq', F⟩ : ∃ tq', Fs [] g g.heap.objs.size (lk [("text", .str (S T) tT), ("at", .int ((q4 : Nat) : Int) tq'), ("rows", .ref b), ("row", .ref a), ("item", .ref T2)]) ((a, .list its.toArray) :: (b, .list rs.toArray) :: (T2, Sh.raw (seqObj "tuple" #[_, y] 0)) :: (Tn ++ Tl)) s := ⟨_, (F.perm (by
              refine .trans (List.perm_middle (l₁ := [_, _])) (.cons _ ?_)
              refine .trans ?_ List.perm_append_comm.symm
              exact (List.Perm.append_left [_, _] List.perm_append_comm).trans (by simp))).as _ ⟨rfl, rfl, rfl, rfl, rfl, trivial⟩⟩
            refine ⟨rfl, q4, tq', .ref T2, _, fun p hp => .tail _ (List.mem_append_right _ hp), ?_, hne hq4, hlt hq4, F⟩
            rw [show 2 * (j + 1) + 2 = (2 * j + 3) + 1 by omega]
            have hmem : ∀ p ∈ Tn, p ∈ (T2, Sh.raw (seqObj "tuple" #[Value.str (S lor) t, y] 0)) :: (Tn ++ Tl) := fun p hp => .tail _ (List.mem_append_left _ hp)
            exact ⟨T2, _, _, rfl, .head _, hft, .inr (.inl ⟨_, rfl, hrep.mono hmem (RepI.more hmem _)⟩)⟩
      · clear F
        rintro f s ⟨rfl, q2, tq2, v, Tl', hTl, hrep, hq2, hq2l, F⟩
        have hless := hI.less
        have hup : ∀ {v : Value} {ts : List (List Nat)} {Tl' : Led}, RepI Tl' (2 * k + 2) v ts → RepI Tl' (2 * k + 3) v ts := fun h => RepI.up _ _ _ h
        have hits' : ∀ {Tl2 : Led}, (∀ p ∈ Tl', p ∈ Tl2) → Each (RepI Tl2 (2 * k + 3)) its tss := fun h2 => hits.mono fun v ts h => RepI.more h2 _ _ _ (RepI.more hTl _ _ _ h)
        have hrs' : ∀ {Tl2 : Led}, (∀ p ∈ Tl', p ∈ Tl2) → Each (RowAt (RepI Tl2 (2 * k + 3)) Tl2) rs Rs := fun h2 => hrs.mono fun v R h => (h.mono hTl (RepI.more hTl _)).mono h2 (RepI.more h2 _)
        walk_at "go"
        refine subS F ?_
        walk_at "go"
        refine ⟨T, tT, some ((q2 : Int) + 1), some ((q2 : Int) + 1 + 1), _, _, rfl, .int _ _, .int _ _, F, by omega, ?_⟩
        clear F; intro ts1 s F
        rw [show (q2 : Int) + 1 + 1 = ((q2 + 2 : Nat) : Int) by omega, show (q2 : Int) + 1 = ((q2 + 1 : Nat) : Int) by omega, sl_mid, hq2, show q2 + 2 - (q2 + 1) = 1 by omega]
        walk_at "go"
        rw [l63]
        rcases hnext with ⟨hnq, hfp, hR⟩ | ⟨l2, rfl, hft2, hfp, hR⟩
        · rw [if_neg (by simp; intro q; exact hnq (by cases lx with | nil => cases q | cons x y => simp at q; simp [q]))]
          walk_at "go"
          refine gmApp (F.get (x := .list its.toArray) (.head _)) ?_
          walk_at "go"
          refine appL F [] _ rfl (by rw [List.size_toArray]; omega) ?_
          clear F; intro s F
          walk_at "go"
          rw [List.push_toArray] at F
          simp only [List.length_cons] at hless hil hrl
          refine ⟨lx.length, hless, lx, q2 + 1, _, its ++ [v], rs, tss ++ [ts], Rs, a, Tl', rfl, hq2, hq2l, by rw [foldl_snoc]; exact hR, (hits' fun _ h => h).snoc (hup hrep), hrs' fun _ h => h, few_take hfew hfp, by rw [List.length_append]; simp; omega, by omega, F.as _ ⟨rfl, rfl, rfl, rfl, trivial⟩⟩
        · rw [if_pos (by simp)]
          walk_at "go"
          refine newT F (by simp) fun T2 s F hT2 => ?_
          walk_at "go"
          refine gmApp (F.get (x := .list its.toArray) (.tail _ (.head _))) ?_
          walk_at "go"
          refine appL F [_] _ rfl (by rw [List.size_toArray]; omega) ?_
          clear F; intro s F
          walk_at "go"
          simp only [List.length_cons] at hless hil hrl
          obtain ⟨tq', F⟩ : ∃ tq', Fs [] g g.heap.objs.size (lk [("text", .str (S T) tT), ("at", .int ((q2 + 2 : Nat) : Int) tq'), ("rows", .ref b), ("row", .ref a)]) ((a, .list (its ++ [Value.ref T2]).toArray) :: (b, .list rs.toArray) :: (T2, _) :: Tl') s := ⟨_, by
            rw [show (q2 : Int) + 1 + 1 = ((q2 + 2 : Nat) : Int) by omega, List.push_toArray] at F
            exact (F.perm (List.perm_middle (l₁ := [_, _]))).as _ ⟨rfl, rfl, rfl, rfl, trivial⟩⟩
          refine ⟨l2.length, by simp; omega, l2, q2 + 2, tq', its ++ [.ref T2], rs, tss ++ [ts ++ [[]]], Rs, a, _, rfl, hne hq2, hlt hq2, by rw [foldl_snoc]; exact hR, (hits' fun _ h => .tail _ h).snoc ⟨T2, _, _, rfl, .head _, hft2, .inr (.inr ⟨_, ts, rfl, RepI.more (fun _ h => .tail _ h) _ _ _ hrep, rfl⟩)⟩, hrs' fun _ h => .tail _ h, few_take hfew hfp, by rw [List.length_append]; simp; omega, by omega, F⟩
theorem read_all (w : World) : ∀ k, ReadAt w k
  | 0 => read_step 0 fun _ e => by cases e
  | k + 1 => read_step (k + 1) fun j e => by cases e; exact read_all w k

def TextsAt (w : World) (k : Nat) : Prop := ∀ {A : Around} {g : Shared}, Cx A (k + 4) (30 * k + 100) → Wo (KK w) g.heap → ∀ {T : Led} {v : Value} {ds : List (List Nat)}, (∀ p ∈ T, p.2.at g.heap p.1) → RowsAt (RepI T k) T v ds →
  codeAny (model pw w) A (.call (.ref 201) ⟨[v], []⟩) (Ret fun v s' => (∃ (a : Addr) (ys : Array Value), v = .ref a ∧ g.heap.objs.size ≤ a ∧ s'.heap.PlainList a ys ∧ SV ys.toList ds) ∧ Ext [] g s') g
theorem k_lawtexts (w : World) : ∃ pm, (KK w).lookup 201 = some ⟨.type "function", none, .func (fdI 22 "_law_texts" pm (.ref 200)), #[]⟩ := ⟨_, rfl⟩
theorem or_one : ¬ (lor = (Str.ofString "one").cps.toList) := by decide +kernel
theorem maybe_one : ¬ (lmaybe = (Str.ofString "one").cps.toList) := by decide +kernel
theorem maybe_or : ¬ (lmaybe = (Str.ofString "or").cps.toList) := by decide +kernel
theorem texts_step {w : World} (k : Nat) (ih : ∀ j, k = j + 1 → TextsAt w j) : TextsAt w k := by
  intro A g C W T v ds hT hR
  obtain ⟨pm, hk⟩ := k_lawtexts w
  obtain ⟨ar, rs, Rs, rfl, har, hrs, rfl, hfew, hrl⟩ := hR
  have hL := hT _ har
  obtain ⟨nr, hgr⟩ : ∃ n, g.heap.get? ar = some (seqObj "list" rs.toArray n) := hL
  refine callK [] (d := k + 3) (u := 30 * k + 97) C W hk (by kernel_rfl) rfl (BindsTo.of_eq (binds := [("rows", .ref ar)]) rfl) rfl rfl rfl rfl rfl fun s C X F => ?_
  have hD := ok0
  have hh := C.hh
  have hrl' : rs.length = Rs.length := hrs.len
  show wpAny _ _ (execs (_ :: _) _) _ _ _
  walk_at "go"
  refine newL F (by simp) ?_
  clear F; intro f s F hf
  walk_at "go"
  refine wpAny_For ?_
  walk_at "go"
  refine forLs (a := ar) (items := rs.toArray) (fun i m nw => ∃ (f : Addr) (fs : List Value), AllK m [("rows", .ref ar), ("found", .ref f)] ∧ SV fs (Rs.take i).flatten ∧ nw = [(f, .list fs.toArray)]) (seqObj "list" rs.toArray nr) hh F ⟨nr, F.old (by simp) hgr⟩ ⟨f, [], ⟨rfl, rfl, trivial⟩, .nil, rfl⟩ (fun i m pre nw s _ F => F.old (by simp) hgr) rfl rfl rfl ?_ ?_
  · clear F
    rintro i v m nw s I o E' hv ⟨f, fs, hm, hfs, rfl⟩ F
    obtain ⟨R, hRi, hrow⟩ := hrs.get (i := i) (a := v) (by simpa using hv)
    obtain ⟨at', its, tss, rfl, hat, hits, rfl, hfw, hil⟩ := hrow
    obtain ⟨nt, hgt⟩ : ∃ n, g.heap.get? at' = some (seqObj "list" its.toArray n) := hT _ hat
    replace F := F.as [("row", .ref at'), ("rows", .ref ar), ("found", .ref f)] ⟨rfl, hm.1, hm.2.1, trivial⟩
    walk_at "go"
    refine newL F (by simp) ?_
    clear F; intro t s F ht
    walk_at "go"
    refine wpAny_For ?_
    walk_at "go"
    have hkin : ∀ (j : Nat) (v : Value), its.toArray[j]? = some v → ∃ (aT : Addr) (x y : Value) (ts : List (List Nat)), v = .ref aT ∧ g.heap.get? aT = some (seqObj "tuple" #[x, y] 0) ∧ tss[j]? = some ts ∧ Few ts ∧
        ((∃ t c tc, x = .str (S lone) t ∧ y = .str (S c) tc ∧ ts = [c]) ∨ (∃ k', k = k' + 1 ∧ ∃ t, x = .str (S lor) t ∧ RowsAt (RepI T k') T y ts) ∨ (∃ k', k = k' + 1 ∧ ∃ t us, x = .str (S lmaybe) t ∧ RepI T k' y us ∧ ts = us ++ [[]])) := fun j v hj => by
      obtain ⟨ts, hts, hrep⟩ := hits.get (i := j) (a := v) (by simpa using hj)
      cases k with
      | zero => exact hrep.elim
      | succ k' =>
        obtain ⟨aT, x, y, rfl, haT, hft, h⟩ := hrep
        refine ⟨aT, x, y, ts, rfl, hT _ haT, hts, hft, ?_⟩
        rcases h with h | h | h
        · exact .inl h
        · exact .inr (.inl ⟨k', rfl, h⟩)
        · exact .inr (.inr ⟨k', rfl, h⟩)
    refine forP (a := at') (items := its.toArray) (fun j m nw => ∃ (ta : Addr) (tx : List Value), AllK m [("rows", .ref ar), ("found", .ref f), ("texts", .ref ta)] ∧ SV tx ((tss.take j).foldl prod [[]]) ∧ nw = [(ta, .list tx.toArray), (I, .raw o), (f, .list fs.toArray)]) (seqObj "list" its.toArray nt) hh F ⟨nt, F.old (by simp) hgt⟩
      ⟨t, _, ⟨rfl, rfl, rfl, trivial⟩, .cons (a := []) .nil, by rw [← lit_nil]; rfl⟩ (fun i m pre nw s _ F => F.old (by simp) hgt) (fun j v m nw hj _ => ?_) rfl rfl rfl rfl ?_ ?_
    · obtain ⟨aT, x, y, _, rfl, h, _⟩ := hkin j v hj
      exact ⟨aT, x, y, rfl, fun m' pre s F => F.old (by simp) h⟩
    · clear F
      rintro j aT x y m nw s I2 o2 E2 hj hTx ⟨ta, tx, hm, htx, rfl⟩ F
      obtain ⟨aT', x', y', ts, e, hgT, hts, hft, hcase⟩ := hkin j _ hj
      cases e
      have hxy : x = x' ∧ y = y' := by
        have h1 := congrArg Obj.data (Option.some.inj (hTx.symm.trans (F.old (by simp) hgT)))
        have h2 : Data.seq #[x, y] 0 = Data.seq #[x', y'] 0 := h1
        injection h2 with h3
        simpa using h3
      obtain ⟨rfl, rfl⟩ := hxy
      replace F := F.as [("what", y), ("kind", x), ("rows", .ref ar), ("found", .ref f), ("texts", .ref ta)] ⟨rfl, rfl, hm.1, hm.2.1, hm.2.2.1, trivial⟩
      refine wpAny_execs_cons (wpAny_mono (Q := fun f' s' => f' = Flow.next ∧ ∃ (b : Addr) (zs : List Value), SV zs ts ∧
        Fs [] g g.heap.objs.size (lk [("rows", .ref ar), ("found", .ref f), ("texts", .ref ta), ("some", .ref b)]) [(b, .list zs.toArray), (I2, .raw o2), (ta, .list tx.toArray), (I, .raw o), (f, .list fs.toArray)] s') (E := fun _ _ => False) ?_ ?_ (fun _ _ h => h.elim))
      · walk_at "go"
        rcases hcase with ⟨t1, c, tc, rfl, rfl, rfl⟩ | ⟨k', rfl, t1, rfl, hrows⟩ | ⟨k', rfl, t1, us, rfl, hrep, rfl⟩
        · walk_at "go"
          rw [if_pos (by simp)]
          walk_at "go"
          refine newL F (by simp) fun b s F hb => ?_
          walk_at "go"
          exact ⟨rfl, b, [_], .cons .nil, F.as _ ⟨rfl, rfl, rfl, rfl, trivial⟩⟩
        · walk_at "go"
          rw [if_neg (fun q => or_one (of_decide_eq_true q))]
          walk_at "go"
          rw [if_pos (by simp)]
          walk_at "go"
          refine use (ih k' rfl (C.mono (by omega) (by omega)) (W.ext (small _) hD F.ext) (F.old0 hT) hrows) fun v s' hv => ?_
          obtain ⟨⟨b, zs, rfl, hb, hlb, hzs⟩, X'⟩ := hv
          have F2 := F.add (F.step X') hb (x := .list zs) hlb
          clear F
          have F := F2
          walk_at "go"
          exact ⟨rfl, b, zs.toList, hzs, F.as _ ⟨rfl, rfl, rfl, rfl, trivial⟩⟩
        · walk_at "go"
          rw [if_neg (fun q => maybe_one (of_decide_eq_true q))]
          walk_at "go"
          rw [if_neg (fun q => maybe_or (of_decide_eq_true q))]
          walk_at "go"
          refine newL F (by simp) fun l1 s F hl1 => ?_
          walk_at "go"
          refine newL F (by simp) fun l2 s F hl2 => ?_
          walk_at "go"
          have hmem : ∀ p ∈ T, p ∈ (l2, Sh.list [Value.ref l1].toArray) :: (l1, Sh.list [y].toArray) :: T := fun p hp => .tail _ (.tail _ hp)
          have hfu : Few us := hft.left
          refine use (ih k' rfl (C.mono (by omega) (by omega)) (W.ext (small _) hD F.ext) (T := (l2, Sh.list [Value.ref l1].toArray) :: (l1, Sh.list [y].toArray) :: T) (ds := us) (fun p hp => ?_)
            ⟨l2, [.ref l1], [us], rfl, .head _, .cons ⟨l1, [y], [us], rfl, .tail _ (.head _), .cons (RepI.more hmem _ _ _ hrep) .nil, by simp [prod], fun i => ?_, by simp⟩ .nil, by simp, hfu, by simp⟩) fun v s' hv => ?_
          · rcases List.mem_cons.mp hp with rfl | hp
            · exact F.get (x := .list _) (.head _)
            rcases List.mem_cons.mp hp with rfl | hp
            · exact F.get (x := .list _) (.tail _ (.head _))
            · exact F.old0 hT p hp
          · cases i with
            | zero => exact .one (by simp)
            | succ i => simpa [prod] using hfu
          obtain ⟨⟨b, zs, rfl, hb, hlb, hzs⟩, X'⟩ := hv
          have F2 := F.add (F.step X') hb (x := .list zs) hlb
          clear F
          have F := F2
          walk_at "go"
          refine newL F (by simp) fun l3 s F hl3 => ?_
          have hzl := hzs.len
          have hzf := hfu.len
          have hzz : zs.size ≤ 1000 := by rw [← Array.length_toList]; omega
          refine addL F (F.get (x := .list _) (.tail _ (.head _))) (F.get (x := .list _) (.head _)) (by simp; omega) fun b2 s F hb2 => ?_
          walk_at "go"
          obtain ⟨t0, F⟩ : ∃ t0 : Tok, Fs [] g g.heap.objs.size (lk [("rows", .ref ar), ("found", .ref f), ("texts", .ref ta), ("some", .ref b2)]) [(b2, .list (zs.toList ++ [Value.str (S []) t0]).toArray), (I2, .raw o2), (ta, .list tx.toArray), (I, .raw o), (f, .list fs.toArray)] s := ⟨t, by
            have h := (F.drop (news' := [_, (I2, .raw o2), (ta, .list tx.toArray), (I, .raw o), (f, .list fs.toArray)]) (.cons_cons _ (.cons _ (.cons _ (.cons _ (.cons _ (.refl _))))))).as [("rows", .ref ar), ("found", .ref f), ("texts", .ref ta), ("some", .ref b2)] ⟨rfl, rfl, rfl, rfl, trivial⟩
            rw [show (Str.ofString "").cps.toList = [] from lit_nil, show zs ++ [Value.str (S []) t].toArray = (zs.toList ++ [Value.str (S []) t]).toArray by apply Array.toList_inj.mp; simp] at h
            exact h⟩
          exact ⟨rfl, b2, _, hzs.snoc [] t0, F⟩
      · clear F
        rintro f' s ⟨rfl, b, zs, hzs, F⟩
        walk_at "go"
        refine newL F (by simp) fun lg s F hlg => ?_
        walk_at "go"
        obtain ⟨nt2, F⟩ := F.raw [_, _, _] _ rfl
        obtain ⟨nb2, F⟩ := F.raw [_] _ rfl
        refine wpAny_For ?_
        walk_at "go"
        have hfj : Few ((tss.take j).foldl prod [[]]) := hfw j
        have hfp : Few (prod ((tss.take j).foldl prod [[]]) ts) := by
          have := hfw (j + 1)
          rwa [List.take_add_one, hts, show (some ts).toList = [ts] from rfl, foldl_snoc] at this
        generalize hRj : (tss.take j).foldl prod [[]] = Rj at htx hfj hfp
        refine forLs (a := ta) (items := tx.toArray) (fun i m nw => ∃ ys : List Value, AllK m [("rows", .ref ar), ("found", .ref f), ("some", .ref b), ("longer", .ref lg)] ∧ SV ys (prod (Rj.take i) ts) ∧ nw = [(lg, .list ys.toArray), (b, .raw (seqObj "list" zs.toArray nb2)), (I2, .raw o2), (ta, .raw (seqObj "list" tx.toArray nt2)), (I, .raw o), (f, .list fs.toArray)]) (seqObj "list" tx.toArray nt2) hh F ⟨nt2, F.get (x := .raw _) (.tail _ (.tail _ (.tail _ (.head _))))⟩
          ⟨[], ⟨rfl, rfl, rfl, rfl, trivial⟩, .nil, rfl⟩ (fun i m pre nw s h F => by obtain ⟨ys, _, _, rfl⟩ := h; exact F.get (x := .raw _) (List.mem_append_right _ (.tail _ (.tail _ (.tail _ (.head _)))))) rfl rfl rfl ?_ ?_
        · clear F
          rintro i v m nw s I3 o3 E3 hv ⟨ys, hm, hys, rfl⟩ F
          obtain ⟨r, tr, hri, rfl⟩ := htx.get (i := i) (v := v) (by simpa using hv)
          replace F := F.as [("text", .str (S r) tr), ("rows", .ref ar), ("found", .ref f), ("some", .ref b), ("longer", .ref lg)] ⟨rfl, hm.1, hm.2.1, hm.2.2.1, hm.2.2.2.1, trivial⟩
          refine wpAny_execs_cons ?_
          refine wpAny_For ?_
          walk_at "go"
          refine forLs (a := b) (items := zs.toArray) (fun j m nw => ∃ ys : List Value, AllK m [("text", .str (S r) tr), ("rows", .ref ar), ("found", .ref f), ("some", .ref b), ("longer", .ref lg)] ∧ SV ys (prod (Rj.take i) ts ++ (ts.take j).map fun t => r ++ t) ∧ nw = [(I3, .raw o3), (lg, .list ys.toArray), (b, .raw (seqObj "list" zs.toArray nb2)), (I2, .raw o2), (ta, .raw (seqObj "list" tx.toArray nt2)), (I, .raw o), (f, .list fs.toArray)]) (seqObj "list" zs.toArray nb2) hh F ⟨nb2, F.get (x := .raw _) (.tail _ (.tail _ (.head _)))⟩
            ⟨ys, ⟨rfl, rfl, rfl, rfl, rfl, trivial⟩, by simpa using hys, rfl⟩ (fun i m pre nw s h F => by obtain ⟨ys, _, _, rfl⟩ := h; exact F.get (x := .raw _) (List.mem_append_right _ (.tail _ (.tail _ (.head _))))) rfl rfl rfl ?_ ?_
          · clear F
            rintro i4 v m nw s I4 o4 E4 hv ⟨ys, hm, hys, rfl⟩ F
            obtain ⟨mo, tm, hmi, rfl⟩ := hzs.get (i := i4) (v := v) (by simpa using hv)
            replace F := F.as [("more", .str (S mo) tm), ("text", .str (S r) tr), ("rows", .ref ar), ("found", .ref f), ("some", .ref b), ("longer", .ref lg)] ⟨rfl, hm.1, hm.2.1, hm.2.2.1, hm.2.2.2.1, hm.2.2.2.2.1, trivial⟩
            walk_at "go"
            rw [if_neg (by intro q; exact Bool.noConfusion q)]
            walk_at "go"
            refine gmApp (F.get (x := .list ys.toArray) (.tail _ (.tail _ (.head _)))) ?_
            walk_at "go"
            have hr1 := hfj.sz r (List.mem_of_getElem? hri)
            have hm1 := hft.sz mo (List.mem_of_getElem? hmi)
            refine addS F (by omega) ?_
            clear F; intro tsum s F
            walk_at "go"
            have hyl : ys.length ≤ 1000 := by
              have h1 := hys.len
              have h2 := (prod_pre (ts := ts) (j := i4) hri).length_le
              have h3 := hfp.len
              omega
            refine appL F [_, _] _ rfl (by rw [List.size_toArray]; omega) ?_
            clear F; intro s F
            walk_at "go"
            rw [List.push_toArray] at F
            refine ⟨_, _, F, ys ++ [.str (S (r ++ mo)) tsum], ⟨rfl, rfl, rfl, rfl, rfl, trivial⟩, ?_, rfl⟩
            rw [List.take_add_one, hmi, show (some mo).toList = [mo] from rfl, List.map_append, ← List.append_assoc]
            exact hys.snoc _ _
          · clear F
            rintro m nw s ⟨ys, hm, hys, rfl⟩ F
            walk_at "go"
            have hzs' : zs.toArray.size = ts.length := List.size_toArray.trans hzs.len
            rw [hzs', List.take_length, ← prod_snoc] at hys
            refine ⟨_, _, F, ys, ⟨hm.2.1, hm.2.2.1, hm.2.2.2.1, hm.2.2.2.2.1, trivial⟩, ?_, rfl⟩
            rw [List.take_add_one, hri]
            exact hys
        · clear F
          rintro m nw s ⟨ys, hm, hys, rfl⟩ F
          replace F := F.as [("rows", .ref ar), ("found", .ref f), ("some", .ref b), ("longer", .ref lg)] ⟨hm.1, hm.2.1, hm.2.2.1, hm.2.2.2.1, trivial⟩
          walk_at "go"
          have htx' : tx.toArray.size = Rj.length := List.size_toArray.trans htx.len
          rw [htx', List.take_length] at hys
          have F2 := (F.drop (news' := [(lg, .list ys.toArray), (I2, .raw o2), (I, .raw o), (f, .list fs.toArray)]) (.cons_cons _ (.cons _ (.cons_cons _ (.cons _ (.refl _)))))).perm (news' := [(I2, .raw o2), (lg, .list ys.toArray), (I, .raw o), (f, .list fs.toArray)]) (.swap ..)
          refine ⟨_, _, F2, lg, ys, ⟨rfl, rfl, rfl, trivial⟩, ?_, rfl⟩
          rw [List.take_add_one, hts, show (some ts).toList = [ts] from rfl, foldl_snoc, hRj]
          exact hys
    · clear F
      rintro m nw s ⟨ta, tx, hm, htx, rfl⟩ F
      replace F := F.as [("rows", .ref ar), ("found", .ref f), ("texts", .ref ta)] ⟨hm.1, hm.2.1, hm.2.2.1, trivial⟩
      walk_at "go"
      have hiz : its.toArray.size = tss.length := List.size_toArray.trans hits.len
      rw [hiz, List.take_length] at htx
      have hfl : fs.length ≤ 1000 := by
        have h1 := hfs.len
        have h2 : (Rs.take i).flatten.length ≤ Rs.flatten.length := by
          conv => rhs; rw [← List.take_append_drop i Rs, List.flatten_append, List.length_append]
          omega
        have h3 := hfew.len
        omega
      have htl : tx.length ≤ 1000 := by
        have h1 := htx.len
        have h3 := (hfw tss.length).len
        rw [List.take_length] at h3
        omega
      refine addL F (F.get (x := .list _) (.tail _ (.tail _ (.head _)))) (F.get (x := .list _) (.head _)) (by simp; omega) fun f2 s F hf2 => ?_
      walk_at "go"
      have F2 := (F.drop (news' := [(f2, _), (I, .raw o)]) (.cons_cons _ (.cons _ (.cons_cons _ (.cons _ (.refl _)))))).perm (news' := [(I, .raw o), (f2, _)]) (.swap ..)
      rw [show fs.toArray ++ tx.toArray = (fs ++ tx).toArray by simp] at F2
      refine ⟨_, _, F2, f2, fs ++ tx, ⟨rfl, rfl, trivial⟩, ?_, rfl⟩
      rw [List.take_add_one, hRi, List.flatten_append]
      have := hfs.app htx
      simpa using this
  · clear F
    rintro m nw s ⟨f, fs, hm, hfs, rfl⟩ F
    replace F := F.as [("rows", .ref ar), ("found", .ref f)] ⟨hm.1, hm.2.1, trivial⟩
    walk_at "go"
    have hrz : rs.toArray.size = Rs.length := List.size_toArray.trans hrl'
    rw [hrz, List.take_length] at hfs
    exact ⟨_, rfl, ⟨f, fs.toArray, rfl, F.own0 (.head _), F.get (x := .list _) (.head _), by simpa using hfs⟩, F.ext⟩
theorem texts_all (w : World) : ∀ k, TextsAt w k
  | 0 => texts_step 0 fun _ e => by cases e
  | k + 1 => texts_step (k + 1) fun j e => by cases e; exact texts_all w k

def ShFree : Sh → Prop
  | .list _ => True
  | .raw o => CodeFree o
  | .cell _ => True
/-- things that keep the table right -/
def TabIn (g : Shared) (Tl : Led) : Prop := 145 ∈ Tl.map (·.1) ∧ ∀ (L : Addr) (m : Str → Option Value) (news : Led) (s : Shared), (∀ x ∈ Tl, x ∈ news) → Fs [145] g L m news s → TabOk g.heap.objs.size s.heap
theorem tab_in {g s : Shared} {L : Addr} {m : Str → Option Value} {news : Led} (hM : ModOk g.heap) (h145 : ∀ o, g.heap.get? 145 = some o → ∀ es ep, o.data ≠ .dict es ep) (F : Fs [145] g L m news s) (T : TabOk g.heap.objs.size s.heap)
    (hsz : 145 < g.heap.objs.size) (hn : ∀ p ∈ news, p.1 ≠ 145 ∧ ShFree p.2) : ∃ Tl : Led, Fs [145] g L m (news ++ Tl) s ∧ TabIn g Tl := by
  have hno := NoCode.tab T
  obtain ⟨_, ps, hp, ht, hmk, hc⟩ := T
  have hLn : 145 ≠ L := Nat.ne_of_lt (Nat.lt_of_lt_of_le hsz F.newL)
  have F1 := F.put (x := .raw (tabObj ps)) (a := 145) hp (.inl ⟨.head _, h145⟩) hLn (fun p hp => (hn p hp).1)
  have mod : ∀ {L : Addr} {m : Str → Option Value} {news : Led} {s : Shared}, Fs [145] g L m news s → ModOk s.heap ∧ Mark g.heap.objs.size s.heap := fun F => by
    obtain ⟨ob, h1, h2⟩ := hM
    obtain ⟨m₀, ⟨o, es, ep, ho, hd, _⟩, _⟩ := F.loc
    exact ⟨⟨ob, F.old (by decide) h1, h2⟩, _, o, F.newL, ho, es, ep, hd⟩
  cases hcd : codeAmong lamPos ps.toList with
  | none =>
    refine ⟨[(145, .raw (tabObj ps))], F1.perm List.perm_append_comm, by simp, fun L m news s hin F2 => ?_⟩
    have h2 := F2.get (a := 145) (x := .raw (tabObj ps)) (hin _ (by simp))
    exact ⟨(mod F2).1, ps, h2, ht, (mod F2).2, fun cv hcv => by rw [hcd] at hcv; cases hcv⟩
  | some cv =>
    obtain ⟨⟨c, oc, vs, tq, e1, e2, e3, e4⟩, c', e5, hge⟩ := hc cv hcd
    have hcc : c = c' := by rw [e1] at e5; injection e5
    subst hcc
    have hc145 : c ≠ 145 := fun q => hno 145 (.head _) oc vs (q ▸ e2) e3 _ _ e4
    obtain ⟨m₀, ⟨oL, es, ep, hoL, hdL, _⟩, _⟩ := F.loc
    have hcL : c ≠ L := fun q => by rw [q, hoL] at e2; cases e2; rw [hdL] at e3; cases e3
    refine ⟨[(c, .raw oc), (145, .raw (tabObj ps))], (F1.put (x := .raw oc) e2 (.inr hge) hcL (fun p hp' q => ?_)).perm List.perm_append_comm, by simp, fun L m news s hin F2 => ?_⟩
    · rcases List.mem_cons.mp hp' with rfl | hp'
      · exact hc145 q.symm
      · have hat := F.led p hp'
        have hfr := (hn p hp').2
        rw [q] at hat
        cases hx : p.2 with
        | list items =>
          rw [hx] at hat
          obtain ⟨n, e⟩ := hat
          rw [e2] at e; cases e; cases e3
        | raw o =>
          rw [hx] at hat hfr
          have e : _ = some o := hat
          rw [e2] at e; cases e
          exact hfr vs e3 _ _ e4
        | cell v =>
          rw [hx] at hat
          obtain ⟨o, e, hd⟩ := hat
          rw [e2] at e; cases e; rw [hd] at e3; cases e3
    · have h2 := F2.get (a := 145) (x := .raw (tabObj ps)) (hin _ (by simp))
      have h3 := F2.get (a := c) (x := .raw oc) (hin _ (by simp))
      refine ⟨(mod F2).1, ps, h2, ht, (mod F2).2, fun cv' hcv => ?_⟩
      rw [hcd] at hcv; cases hcv
      exact ⟨⟨c, oc, vs, tq, e1, h3, e3, e4⟩, c, e1, hge⟩
/-- a call of regex_opt from the law -/
theorem ropt_in {w : World} {A : Around} {E : Value → Shared → Prop} {Q : Value → Shared → Prop} {g s : Shared} {L : Addr} {m : Str → Option Value} {news Tl : Led} {env : Env} {vals : List Value} {kw : List (Str × Value)} {V : Addr} {p q : List Nat} {tp tq : Tok} {us ws : List (List Nat)} (n : Nat)
    (hfr : frs A = []) (U : Up kmax A g.heap) (hM : ModOk g.heap) (h145 : ∀ o, g.heap.get? 145 = some o → ∀ es ep, o.data ≠ .dict es ep) (W : Wo (KK w) g.heap) (F : Fs [145] g L m (news ++ Tl) s) (hT : TabIn g Tl) (hn0 : ∀ p ∈ news, ShFree p.2)
    (C : Cx (A.deeper env) (6 * n + 21) (40 * n + 303)) (hf : env.frame = some L) (hkf : env.scope.kind = .function)
    (hb : ∀ pm, (KK w).lookup 156 = some ⟨.type "function", none, .func (fdR pm), #[]⟩ → BindsTo s (fdR pm) ⟨vals, kw⟩ [("strings", .ref V), ("prefix", .str (S p) tp), ("suffix", .str (S q) tq)])
    (hset : ∀ (A : Around) (s₂ : Shared) (Q : Value → Shared → Prop) (E : Value → Shared → Prop), A.handled = none → Ext [] s s₂ → (∀ a s' ss, s₂.heap.objs.size ≤ a → Ext [] s₂ s' → SetIs pw w s'.heap a ss → ss.Nodup → (∀ y, y ∈ ss ↔ y ∈ ws) → Q (.ref a) s') → wpAny (model pw w) A (call (.type "set") [.ref V]) Q E s₂)
    (hc : Canon us ws) (hm : mu us ≤ n) (hp : p.length ≤ 100) (hq : q.length ≤ 100)
    (h : ∀ t s' Tl', Fs [145] g L m (news ++ Tl') s' → TabIn g Tl' → Q (.str (S (p ++ rx n us [40] ++ q)) t) s') : wpAny (model pw w) (A.deeper env) (call (.ref 156) vals kw) Q E s := by
  have hbig := W.big
  have hD : okD tabP kmax [145] := fun b hb => .inl (List.mem_singleton.mp hb)
  have T0 : TabOk g.heap.objs.size s.heap := hT.2 L m _ s (fun x hx => List.mem_append_right _ hx) F
  refine use (ropt_spec n C (W.ext (small _) hD F.ext) (U.deep F (Nat.le_trans hbig F.newL) hf hkf) T0 hb hset hc hm hp hq) fun v s' hv => ?_
  obtain ⟨⟨t, rfl⟩, T1, X⟩ := hv
  have F0 := F.drop (List.sublist_append_left news Tl)
  have hn : ∀ p ∈ news, p.1 ≠ 145 ∧ ShFree p.2 := fun p hp => ⟨fun e => by
    have h1 := (List.nodup_cons.mp F.nd).2
    rw [List.map_append] at h1
    exact (List.nodup_append.mp h1).2.2 _ (List.mem_map_of_mem hp) _ hT.1 e, hn0 p hp⟩
  have F1 := F0.after U (by decide) (Nat.le_trans hbig F.newL) hf X (fun d hd => .inl hd) (fun h => h) (fun p hp q => (hn p hp).1 (List.mem_singleton.mp q))
  rw [hfr, List.append_nil] at F1
  obtain ⟨Tl', F2, hT'⟩ := tab_in hM h145 F1 T1 (Nat.lt_of_lt_of_le (by decide) hbig) hn
  exact h t s' Tl' F2 hT'
theorem Fs.add2 {D : List Addr} {g s s' : Shared} {L : Addr} {m m' : Str → Option Value} {news news' : Led} (F : Fs D g L m news s) (F' : Fs D g L m' news' s') (e : news'.map (·.1) = news.map (·.1)) {a : Addr} {x : Sh} (ha : s.heap.objs.size ≤ a) (hx : x.at s'.heap a) : Fs D g L m' ((a, x) :: news') s' := by
  refine ⟨F'.ext, F'.loc, F'.newL, fun p hp => ?_, fun p hp => ?_, ?_⟩
  · rcases List.mem_cons.mp hp with rfl | hp
    · exact hx
    · exact F'.led p hp
  · rcases List.mem_cons.mp hp with rfl | hp
    · exact .inr (Nat.le_trans (Nat.le_of_lt (Nat.lt_of_le_of_lt F.newL F.ltL)) ha)
    · exact F'.own p hp
  · have h1 := F'.nd
    have h2 : L < a := Nat.lt_of_lt_of_le F.ltL ha
    have h3 : ∀ b ∈ news'.map (·.1), b < a := fun b hb => by
      rw [e] at hb
      obtain ⟨p, hp, rfl⟩ := List.mem_map.mp hb
      exact Nat.lt_of_lt_of_le (F.lt hp) ha
    rw [List.nodup_cons] at h1
    refine List.nodup_cons.mpr ⟨fun q => ?_, List.nodup_cons.mpr ⟨fun q => Nat.lt_irrefl _ (h3 _ q), h1.2⟩⟩
    rcases List.mem_cons.mp q with q | q
    · exact absurd q (Nat.ne_of_lt h2)
    · exact h1.1 q
theorem words_in {w : World} {A : Around} {E : Value → Shared → Prop} {Q : Value → Shared → Prop} {D : List Addr} {g s : Shared} {L P N : Addr} {m : Str → Option Value} {news : Led} {oP : Obj} {items : Array Value} {k : Nat} (pre post : Led)
    (C : Cx A 4 60) (W : Wo (KK w) g.heap) (hD : okD tabP kmax D) (F : Fs D g L m news s) (en : news = pre ++ (P, .raw oP) :: post) (ho : StO oP N k) (hN : s.heap.PlainList N items) (hnum : Nums items) (hkP : kmax ≤ P) (hat : k ≤ 50000)
    (h : ∀ a ys ss s' oP' k', k' ≤ k + 200 → StO oP' N k' → Words ss → SV ys.toList ss → Fs D g L m ((a, .list ys) :: (pre ++ (P, .raw oP') :: post)) s' → Q (.ref a) s') : wpAny (model pw w) A (call (.ref 182) [.ref P]) Q E s := by
  subst en
  have hP : s.heap.get? P = some oP := F.get (x := .raw _) (by simp)
  obtain ⟨hc, t0, n0, hd⟩ := ho
  refine use (words_spec (items := items) (at' := k) C (W.ext (small _) hD F.ext) ⟨⟨t0, oP, hP, hc, n0, hd⟩, hN, hnum⟩ hkP hat) fun v s' hv => ?_
  obtain ⟨⟨a, ys, ss, rfl, ha, hla, hv, hw⟩, ⟨k', hk', ⟨t1, oP', hP', hc', n1, hd'⟩, hN', _⟩, X⟩ := hv
  refine h a ys ss s' oP' k' hk' ⟨hc', t1, n1, hd'⟩ hw hv (F.add2 (F.re (pre ++ (P, .raw oP') :: post) (by simp) X (one_of (k := kmax) (by simpa using hkP) (by decide)) (fun d hd => .inr (by simp at hd; simp [hd])) (AllAt.of fun p hp => ?_)) (by simp) ha (x := .list ys) hla)
  have hnd : (pre.map (·.1) ++ P :: post.map (·.1)).Nodup := by have := (List.nodup_cons.mp F.nd).2; simpa using this
  rw [List.nodup_append] at hnd
  obtain ⟨_, n2, n3⟩ := hnd
  rcases List.mem_append.mp hp with hp' | hp'
  · exact Sh.at_keep (F.led p (List.mem_append_left _ hp')) fun o e => X.keep _ o (by simpa using n3 _ (List.mem_map_of_mem hp') P (by simp)) e
  · rcases List.mem_cons.mp hp' with rfl | hp'
    · exact hP'
    · exact Sh.at_keep (F.led p (List.mem_append_right _ (.tail _ hp'))) fun o e => X.keep _ o (by
        rw [List.mem_singleton]
        intro q
        exact (List.nodup_cons.mp n2).1 (q ▸ List.mem_map_of_mem hp')) e
/-- the words' order, and what the walks ask of it -/
theorem Words.good {ss : List (List Nat)} (h : Words ss) : Good (isort ss) :=
  ⟨isort_rising ss, (isort_perm ss).nodup_iff.mpr h.nd, fun w hw => Nat.le_trans (h.sz w ((isort_perm ss).mem_iff.mp hw)) (by decide), by rw [(isort_perm ss).length_eq]; exact Nat.le_trans h.len (by decide)⟩
theorem Words.mu {ss : List (List Nat)} (h : Words ss) : Mine.mu (isort ss) ≤ 23 := by
  have h1 := mu_hi (isort ss)
  have h2 := h.len
  rw [(isort_perm ss).length_eq] at h1
  omega
theorem Words.canon {ss ws : List (List Nat)} (h : Words ss) (hw : ∀ y, y ∈ ss ↔ y ∈ ws) : Canon (isort ss) ws := ⟨h.good, fun y => ((isort_perm ss).mem_iff).trans (hw y)⟩
theorem Words.few {ss : List (List Nat)} (h : Words ss) : Few (isort ss) := ⟨by rw [(isort_perm ss).length_eq]; exact Nat.le_trans h.len (by decide), fun t ht => Nat.le_trans (h.sz t ((isort_perm ss).mem_iff.mp ht)) (by decide)⟩
theorem Words.ine {ss : List (List Nat)} (h : Words ss) : isort ss ≠ [] := fun q => h.ne (by
  have := (isort_perm ss).length_eq
  rw [q] at this
  exact List.length_eq_zero_iff.mp this.symm)
/-- the pattern within its bracket, read -/
theorem rd_all {us : List (List Nat)} (hne : us ≠ []) (hm : mu us ≤ 23) (G : Good us) (hf : Few us) : RdL (RdI 24) (rx 23 us [40]) [] [[]] (den 23 us) [] := by
  have hd : Few (den 23 us) := hf.perm (den_perm 23 us hm G)
  have h1 : RdI 24 (rx 23 us [40] ++ []) (den 23 us) [] := by
    rw [rx_op [40] (by decide) hne, show clo [40] = [41] from rfl]
    refine .inr ⟨rx 23 us [] ++ [41], _, rfl, .inr ⟨by simp, fun q => ?_⟩, rd_rx 23 us hne hm G 23 (Nat.le_refl _) [] [41] _ _ (by simpa using hf) (by simp) fun D' R' e => ?_⟩
    · have h2 := rx_first 23 us [41] hne hm (by simp)
      cases hx : rx 23 us [] ++ [41] with
      | nil => simp at hx
      | cons a b => rw [hx] at q h2; simp at q; simp [q.1] at h2
    · have hfd : Few (D' ++ R') := by rw [e]; exact hd
      have := RdL.stop (I := RdI 23) (l := [41]) (.inr rfl) hfd
      rwa [e] at this
  rw [List.append_nil] at h1
  have h2 := RdL.item (I := RdI 24) (D := []) (R := [[]]) h1 (by simp) hd (by rw [prod_one]; exact hd) (RdL.stop (.inl rfl) (by rw [prod_one]; exact hd))
  rwa [prod_one] at h2

theorem k_lawcommon (w : World) : ∃ pm, (KK w).lookup 208 = some ⟨.type "function", none, .func (fdI 23 "_law_common" pm (.ref 207)), #[]⟩ := ⟨_, rfl⟩
theorem common_spec {w : World} {A : Around} {g : Shared} (C : Cx A 2 40) (W : Wo (KK w) g.heap) {a : Addr} {ys : Array Value} {ss : List (List Nat)} (hl : g.heap.PlainList a ys) (hv : SV ys.toList ss) (hne : ss ≠ []) (hz : ss.length ≤ 1000) (hsz : ∀ x ∈ ss, x.length ≤ 10000) :
    codeAny (model pw w) A (.call (.ref 208) ⟨[.ref a], []⟩) (Ret fun v s' => (∃ t, v = .str (S (cpL ss)) t) ∧ Ext [] g s') g := by
  obtain ⟨pm, hk⟩ := k_lawcommon w
  obtain ⟨nl, hl⟩ := hl
  refine callK [] (d := 1) (u := 37) C W hk (by kernel_rfl) rfl (BindsTo.of_eq (binds := [("terms", .ref a)]) rfl) rfl rfl rfl rfl rfl fun s C X F => ?_
  have hD := ok0
  have hh := C.hh
  have hyz : ys.size = ss.length := by rw [← Array.length_toList]; exact hv.len
  have hla : ∀ {s : Shared} {L : Addr} {m : Str → Option Value} {news : Led}, Fs [] g L m news s → s.heap.IsList a ys := fun F => Heap.PlainList.isList ⟨nl, F.old (by simp) hl⟩
  have hlen0 := List.length_pos_iff.mpr hne
  obtain ⟨x, hx0⟩ : ∃ x, ss[0]? = some x := ⟨_, List.getElem?_eq_getElem hlen0⟩
  obtain ⟨tx, hix⟩ := hv.at hx0
  have hxm := List.mem_of_getElem? hx0
  have hxl := hsz x hxm
  show wpAny _ _ (execs (_ :: _) _) _ _ _
  walk_at "go"
  obtain ⟨tf, F⟩ : ∃ tf, Fs [] g g.heap.objs.size (lk [("found", .str (S (x.take 0)) tf), ("terms", .ref a)]) [] s := ⟨_, F.as _ ⟨by show some _ = _; rw [show (Str.ofString "").cps.toList = x.take 0 from lit_nil], rfl, trivial⟩⟩
  refine wpAny_For ?_
  walk_at "go"
  refine itemL F (items := ys) (x := .str (S x) tx) (hla F) (by decide) (by omega) (by simpa using hix) ?_
  walk_at "go"
  refine lenS F (by omega) ?_
  clear F; intro tl s F
  walk_at "go"
  refine forRng (fun i m nw => (∃ tf, AllK m [("found", .str (S (x.take i)) tf), ("terms", .ref a)]) ∧ nw = [] ∧ ∀ y ∈ ss, x.take i <+: y) hh F (by omega) ⟨⟨tf, rfl, rfl, trivial⟩, rfl, fun y _ => by simp⟩ rfl rfl rfl ?_ ?_
  · clear F
    rintro i ti m nw s I o E hi ⟨⟨tf, hm⟩, rfl, hpre⟩ F
    replace F := F.as [("at", .int (i : Nat) ti), ("found", .str (S (x.take i)) tf), ("terms", .ref a)] ⟨rfl, hm.1, hm.2.1, trivial⟩
    obtain ⟨c, hc⟩ : ∃ c, x[i]? = some c := ⟨_, List.getElem?_eq_getElem hi⟩
    refine wpAny_execs_cons ?_
    refine wpAny_For ?_
    walk_at "go"
    refine forLs (fun j m nw => AllK m [("at", .int (i : Nat) ti), ("found", .str (S (x.take i)) tf), ("terms", .ref a)] ∧ nw = [(I, .raw o)] ∧ ∀ k < j, ∀ y, ss[k]? = some y → x.take (i + 1) <+: y) (seqObj "list" ys nl) hh F ⟨nl, F.old (by simp) hl⟩ ⟨⟨rfl, rfl, rfl, trivial⟩, rfl, fun k hk => absurd hk (Nat.not_lt_zero k)⟩ (fun _ _ _ _ _ _ F => F.old (by simp) hl) rfl rfl rfl ?_ ?_
    · clear F
      rintro j v m nw s I2 o2 E2 hv2 ⟨hm, rfl, hall⟩ F
      obtain ⟨y, ty, hy, rfl⟩ := hv.get (i := j) (v := v) (by simpa using hv2)
      replace F := F.as [("word", .str (S y) ty), ("at", .int (i : Nat) ti), ("found", .str (S (x.take i)) tf), ("terms", .ref a)] ⟨rfl, hm.1, hm.2.1, hm.2.2.1, trivial⟩
      have hym := List.mem_of_getElem? hy
      have hyl := hsz y hym
      walk_at "go"
      refine subS F ?_
      walk_at "go"
      rw [show ((i : Nat) : Int) + 1 = ((i + 1 : Nat) : Int) by omega]
      refine ⟨y, ty, some ((i : Nat) : Int), some ((i + 1 : Nat) : Int), _, _, rfl, .int _ _, .int _ _, F, by omega, ?_⟩
      clear F; intro t1 s F
      rw [sl_mid, show i + 1 - i = 1 by omega]
      walk_at "go"
      refine itemL F (items := ys) (x := .str (S x) tx) (hla F) (by decide) (by omega) (by simpa using hix) ?_
      walk_at "go"
      refine itemS F (c := c) (by omega) (by omega) (by rw [Int.toNat_natCast]; exact hc) ?_
      clear F; intro t2 s F
      walk_at "go"
      split
      · rename_i h1
        have h1 : (y.drop i).take 1 ≠ [c] := of_decide_eq_true h1
        walk_at "go"
        refine ⟨.str (S (x.take i)) tf, rfl, ⟨tf, ?_⟩, F.ext⟩
        rw [(isCp_at hxm hpre hym hc h1).eq hne]
      · rename_i h1
        have h1 : (y.drop i).take 1 = [c] := by simpa using h1
        walk_at "go"
        refine ⟨_, _, F, ⟨rfl, rfl, rfl, trivial⟩, rfl, fun k hk z hz' => ?_⟩
        rcases Nat.lt_or_ge k j with q | q
        · exact hall k q z hz'
        · have : k = j := by omega
          subst this
          rw [hy] at hz'; cases hz'
          exact pre_more (hpre y hym) hc h1
    · clear F
      rintro m nw s ⟨hm, rfl, hall⟩ F
      replace F := F.as [("at", .int (i : Nat) ti), ("found", .str (S (x.take i)) tf), ("terms", .ref a)] ⟨hm.1, hm.2.1, hm.2.2.1, trivial⟩
      walk_at "go"
      refine itemL F (items := ys) (x := .str (S x) tx) (hla F) (by decide) (by omega) (by simpa using hix) ?_
      walk_at "go"
      refine itemS F (c := c) (by omega) (by omega) (by rw [Int.toNat_natCast]; exact hc) ?_
      clear F; intro t2 s F
      have htl : (x.take i).length ≤ x.length := by rw [List.length_take]; exact Nat.min_le_right _ _
      refine addS F (by rw [List.length_cons, List.length_nil]; omega) ?_
      clear F; intro t3 s F
      walk_at "go"
      refine ⟨_, _, F, ⟨t3, ?_, rfl, trivial⟩, rfl, fun y hy => ?_⟩
      · show some _ = _
        rw [List.take_add_one, hc]; rfl
      · obtain ⟨k, hk, e⟩ := List.mem_iff_getElem.mp hy
        exact hall k (by omega) y (by rw [List.getElem?_eq_getElem hk, e])
  · clear F
    rintro m nw s ⟨⟨tf, hm⟩, rfl, hpre⟩ F
    replace F := F.as [("found", .str (S x) tf), ("terms", .ref a)] ⟨by rw [hm.1, List.take_of_length_le (Nat.le_refl _)], hm.2.1, trivial⟩
    walk_at "go"
    refine ⟨.str (S x) tf, rfl, ⟨tf, ?_⟩, F.ext⟩
    rw [(isCp_all hxm fun y hy => by have := hpre y hy; rwa [List.take_of_length_le (Nat.le_refl _)] at this).eq hne]

/-- a call of regex_opt_inner from the law -/
theorem inner_in {w : World} {A : Around} {E : Value → Shared → Prop} {Q : Value → Shared → Prop} {g s : Shared} {L : Addr} {m : Str → Option Value} {news Tl : Led} {env : Env} {a : Addr} {items : Array Value} {ws : List (List Nat)} {op : List Nat} {t : Tok} (n : Nat)
    (hfr : frs A = []) (U : Up kmax A g.heap) (hM : ModOk g.heap) (h145 : ∀ o, g.heap.get? 145 = some o → ∀ es ep, o.data ≠ .dict es ep) (W : Wo (KK w) g.heap) (F : Fs [145] g L m (news ++ Tl) s) (hT : TabIn g Tl) (hn0 : ∀ p ∈ news, ShFree p.2)
    (C : CxN (A.deeper env) n) (hf : env.frame = some L) (hkf : env.scope.kind = .function) (hl : s.heap.PlainList a items) (hv : SV items.toList ws) (G : Good ws) (hm : mu ws ≤ n) (hop : op = [] ∨ op = [40] ∨ op = nc)
    (h : ∀ t s' Tl', Fs [145] g L m (news ++ Tl') s' → TabIn g Tl' → Q (.str (S (rx n ws op)) t) s') : wpAny (model pw w) (A.deeper env) (call (.ref 148) [.ref a, .str (S op) t]) Q E s := by
  have hbig := W.big
  have hD : okD tabP kmax [145] := fun b hb => .inl (List.mem_singleton.mp hb)
  have T0 : TabOk g.heap.objs.size s.heap := hT.2 L m _ s (fun x hx => List.mem_append_right _ hx) F
  refine use (inner_all w n _ _ a items ws op t C (W.ext (small _) hD F.ext) (U.deep F (Nat.le_trans hbig F.newL) hf hkf) T0 hl hv G hm hop) fun v s' hv => ?_
  obtain ⟨⟨t, rfl⟩, T1, X⟩ := hv
  have F0 := F.drop (List.sublist_append_left news Tl)
  have hn : ∀ p ∈ news, p.1 ≠ 145 ∧ ShFree p.2 := fun p hp => ⟨fun e => by
    have h1 := (List.nodup_cons.mp F.nd).2
    rw [List.map_append] at h1
    exact (List.nodup_append.mp h1).2.2 _ (List.mem_map_of_mem hp) _ hT.1 e, hn0 p hp⟩
  have F1 := F0.after U (by decide) (Nat.le_trans hbig F.newL) hf X (fun d hd => .inl hd) (fun h => h) (fun p hp q => (hn p hp).1 (List.mem_singleton.mp q))
  rw [hfr, List.append_nil] at F1
  obtain ⟨Tl', F2, hT'⟩ := tab_in hM h145 F1 T1 (Nat.lt_of_lt_of_le (by decide) hbig) hn
  exact h t s' Tl' F2 hT'
/-- the pattern without a bracket, read -/
theorem rd_plain {us : List (List Nat)} (hne : us ≠ []) (hm : mu us ≤ 23) (G : Good us) (hf : Few us) : RdL (RdI 23) (rx 23 us []) [] [[]] (den 23 us) [] := by
  have hd : Few (den 23 us) := hf.perm (den_perm 23 us hm G)
  have h := rd_rx 23 us hne hm G 23 (Nat.le_refl _) [] [] (den 23 us) [] (by simpa using hf) (by simp) fun D' R' e => by
    have hfd : Few (D' ++ R') := by rw [e]; exact hd
    have := RdL.stop (I := RdI 23) (l := []) (.inl rfl) hfd
    rwa [e] at this
  rwa [List.append_nil] at h
/-- the words with a text ahead -/
theorem Words.fgood {ss : List (List Nat)} (h : Words ss) {p : List Nat} (hp : p.length ≤ 5) : Good ((isort ss).map fun x => p ++ x) :=
  h.good.front fun w hw => by have := h.sz w ((isort_perm ss).mem_iff.mp hw); omega
theorem Words.fmu {ss : List (List Nat)} (h : Words ss) (p : List Nat) : Mine.mu ((isort ss).map fun x => p ++ x) ≤ 23 := by
  have h1 := mu_hi ((isort ss).map fun x => p ++ x)
  have h2 := h.len
  rw [List.length_map, (isort_perm ss).length_eq] at h1
  omega
theorem Words.ffew {ss : List (List Nat)} (h : Words ss) {p : List Nat} (hp : p.length ≤ 5) : Few ((isort ss).map fun x => p ++ x) :=
  ⟨by rw [List.length_map]; exact h.few.len, fun t ht => by
    obtain ⟨x, hx, rfl⟩ := List.mem_map.mp ht
    have := h.sz x ((isort_perm ss).mem_iff.mp hx)
    rw [List.length_append]; omega⟩
theorem Words.fine {ss : List (List Nat)} (h : Words ss) (p : List Nat) : (isort ss).map (fun x => p ++ x) ≠ [] := by simpa using h.ine
theorem isort_id {us : List (List Nat)} (h : Rising us) : isort us = us := rising_uniq (isort_rising us) h (isort_perm us)

theorem k_law (w : World) : ∃ pm, (KK w).lookup 213 = some ⟨.type "function", none, .func (fdI 25 "law" pm (.ref 212)), #[]⟩ := ⟨_, rfl⟩
set_option hygiene false in
local macro_rules | `(tactic| walk_at "sub") => `(tactic| repeat (first | exact List.Sublist.refl _ | apply List.Sublist.cons_cons | apply List.Sublist.cons))
set_option hygiene false in
local macro_rules | `(tactic| walk_at "mem") => `(tactic| repeat (first | exact .head _ | apply List.Mem.tail))
set_option hygiene false in
local macro_rules | `(tactic| walk_at "nm") => `(tactic| refine ldC F (by walk_at "mem") rfl ?_)
theorem letter_at {r : Nat} (h : r < 8) : ∃ c, (Str.ofString "ab-]^[\\.").cps.toList[r]? = some c := by
  have hl8 : (Str.ofString "ab-]^[\\.").cps.toList.length = 8 := by decide +kernel
  exact ⟨_, List.getElem?_eq_getElem (by rw [hl8]; exact h)⟩
theorem letters_len : (Str.ofString "ab-]^[\\.").cps.toList.length ≤ 1000000 := by decide +kernel
theorem lit_nil' : (Str.ofString "").cps.toList = [] := lit_nil
theorem good_nil : Good [] := ⟨.nil, .nil, by simp, by simp⟩
theorem code_list (a : Array Value) (n : Nat) : CodeFree (seqObj "list" a n) := fun vs e => by cases e
theorem law_spec {w : World} {A : Around} {g : Shared} (C : Cx A 300 4000) (hA : A.frames = some []) (W : Wo (KK w) g.heap) (hM : ModOk g.heap) (h145 : g.heap.get? 145 = some (tabObj #[])) {a : Addr} {vs : List Value} {ns : List Int} (hl : g.heap.IsList a vs.toArray) (hi : IntsAre vs ns) (hz : vs.length ≤ 100) :
    codeAny (model pw w) A (.call (.ref 213) ⟨[.ref a], []⟩) (Ret fun v s' => v = .bool true ∧ (∃ ps, s'.heap.get? 145 = some (tabObj ps)) ∧ Ext [145] g s') g := by
  obtain ⟨pm, hk⟩ := k_law w
  obtain ⟨od, hkd, ndf, tdf, udf, hds⟩ := k_rdef w
  have hfr : frs A = [] := by unfold frs; rw [hA]; rfl
  have U : Up kmax A g.heap := ⟨[], hA, fun _ h => nomatch h⟩
  have hbig := W.big
  have hnd : ∀ o, g.heap.get? 145 = some o → ∀ es ep, o.data ≠ .dict es ep := fun o e es ep q => by rw [h145] at e; cases e; cases q
  have hgL : 145 < g.heap.objs.size := Nat.lt_of_lt_of_le (by decide) hbig
  refine callKC (d := 299) (u := 3997) C W hk (by kernel_rfl) rfl rfl rfl rfl (fun n p hp => ?_) rfl rfl rfl fun s C X F => ?_
  · have hp : p ∈ [(("front" : Str), n + 1), ("state", n)] := hp
    simp at hp
    rcases hp with rfl | rfl <;> rfl
  replace F : Fs [] g g.heap.objs.size _ [(g.heap.objs.size + 2, .cell none), (g.heap.objs.size + 1, .cell none)] s := F
  replace F := (F.as [("script", .ref a)] ⟨rfl, trivial⟩).moreD (D' := [145]) (by simp)
  have hD : okD tabP kmax [145] := fun b hb => .inl (List.mem_singleton.mp hb)
  have T0 : TabOk g.heap.objs.size s.heap := by
    obtain ⟨ob, h1, h2⟩ := hM
    obtain ⟨m₀, ⟨o, es, ep, ho, hd, _⟩, _⟩ := F.loc
    exact ⟨⟨ob, X.keep _ _ (by simp) h1, h2⟩, #[], X.keep _ _ (by simp) h145, trivial, ⟨_, o, F.newL, ho, es, ep, hd⟩, fun cv h => by cases h⟩
  have hh := C.hh
  obtain ⟨Tl, F, hT⟩ := tab_in hM hnd F T0 hgL (fun p hp => by
    simp only [List.mem_cons, List.not_mem_nil, or_false] at hp
    rcases hp with rfl | rfl
    · exact ⟨Nat.ne_of_gt (Nat.lt_of_lt_of_le hgL (Nat.le_add_right _ _)), trivial⟩
    · exact ⟨Nat.ne_of_gt (Nat.lt_of_lt_of_le hgL (Nat.le_add_right _ _)), trivial⟩)
  clear X T0
  show wpAny _ _ (execs (_ :: _) _) _ _ _
  walk_at "go"
  refine use (state_spec (C.mono (by omega) (by omega)) (W.ext (small _) hD F.ext) (a := a) (vs := vs) (ns := ns) (by
    refine hl.at fun o e => ?_
    have ha : a ∉ [145] := fun q => by
      obtain ⟨o', e', hc, _⟩ := hl
      rw [List.mem_singleton.mp q, h145] at e'; cases e'; cases hc
    exact F.old ha e) hi hz) fun v s' hp => ?_
  obtain ⟨⟨P, N, items, rfl, hPs, hNs, ⟨tS, oP, hPo, hPc, nP, hPd⟩, hNl, hnum⟩, X'⟩ := hp
  have hPN : N ≠ P := fun q => by
    obtain ⟨nN, e⟩ := hNl
    rw [q, hPo] at e; cases e
    injection hPd with h1
    obtain ⟨_, _, h3, _⟩ := hnum.nn (.ref N) (by rw [h1]; simp)
    cases h3
  have F2 := F.adds (T := [(P, .raw oP), (N, .list items)]) (F.step X') ⟨fun p hp => by
    rcases List.mem_cons.mp hp with rfl | hp
    · exact hPo
    · rw [List.mem_singleton.mp hp]; exact hNl, fun p hp => by
    rcases List.mem_cons.mp hp with rfl | hp
    · exact hPs
    · rw [List.mem_singleton.mp hp]; exact hNs, by simpa using Ne.symm hPN⟩
  have hkP : kmax ≤ P := Nat.le_trans hbig (Nat.le_trans F.newL (Nat.le_trans (Nat.le_of_lt F.ltL) hPs))
  clear F
  have F := F2
  clear F2
  refine stC (v := .ref P) [(P, .raw oP), (N, .list items), (g.heap.objs.size + 2, .cell none)] _ F rfl rfl ?_
  clear F; intro s F
  walk_at "go"
  refine wpAny_For ?_
  walk_at "go"
  refine forRngP (fun i m nw => ∃ (oP : Obj) (k : Nat) (vf : Option Value) (Tl : Led), nw = (P, .raw oP) :: (N, .list items) :: (g.heap.objs.size + 2, .cell vf) :: (g.heap.objs.size + 1, .cell (some (.ref P))) :: Tl ∧ StO oP N k ∧ k ≤ 400 * i ∧ TabIn g Tl) hh F (by decide) ⟨oP, 0, none, Tl, rfl, ⟨hPc, tS, nP, hPd⟩, by omega, hT⟩ rfl rfl rfl ?_ ?_
  · clear F hT Tl oP hPo hPc nP hPd
    rintro i ti m nw s I o E' hi ⟨oP, k, vf, Tl, rfl, ho, hk, hT⟩ hoI F
    replace hi : i < 3 := hi
    replace F := F.as [] trivial
    have hNm : ∀ {s : Shared} {L : Addr} {m : Str → Option Value} {news : Led}, Fs [145] g L m news s → (N, Sh.list items) ∈ news → s.heap.PlainList N items := fun F h => F.get (x := .list _) h
    have hoP : ∀ {o : Obj} {n : Nat}, StO o N n → CodeFree o := fun h vs e => by obtain ⟨_, t, n, e2⟩ := h; rw [e2] at e; cases e
    walk_at "go"
    refine words_in [(I, .raw o)] _ (C.mono (by omega) (by omega)) W hD F rfl ho (hNm F (by simp)) hnum hkP (by omega) ?_
    clear F; intro ta ys ss s oP k' hk' ho hw hv F
    have hlen := hw.len
    have hyz : ys.size = ss.length := by rw [← Array.length_toList]; exact hv.len
    have hss0 := List.length_pos_iff.mpr hw.ne
    obtain ⟨nt, F⟩ := F.raw [] _ rfl
    have hsz1 : ∀ x ∈ ss, x.length ≤ 10000 := fun x hx => Nat.le_trans (hw.sz x hx) (by decide)
    walk_at "go"
    refine use (cp_spec (C.mono (by omega) (by omega)) (W.ext (small _) hD F.ext) ⟨nt, F.get (x := .raw _) (.head _)⟩ hv hsz1 (by omega)) fun r s' hr => ?_
    obtain ⟨⟨p, tp, rfl, _, hp⟩, X'⟩ := hr
    have F2 := F.step X'
    clear F
    have F := F2
    clear F2
    obtain rfl := (hp hw.ne).eq hw.ne
    walk_at "go"
    refine use (common_spec (C.mono (by omega) (by omega)) (W.ext (small _) hD F.ext) ⟨nt, F.get (x := .raw _) (.head _)⟩ hv hw.ne (by omega) hsz1) fun r s' hr => ?_
    obtain ⟨⟨t1, rfl⟩, X'⟩ := hr
    have F2 := F.step X'
    clear F
    have F := F2
    clear F2
    walk_at "go"
    rw [if_neg (by simp)]
    walk_at "go"
    refine comp_eval F [] rfl (by decide) rfl (by decide) rfl ?_
    walk_at "go"
    refine compSL F hh List.reverse (seqObj "list" ys nt) (fun C' mC pre s' F' => F'.get (x := .raw _) (List.mem_append_right _ (.head _))) ⟨nt, F.get (x := .raw _) (.head _)⟩ hv (by omega) (fun x tx pre C' s E' hx F => ?_) (fun acc yr s hyr F => ?_)
    · exact rev_eval (ld F rfl ⟨x, tx, rfl, Nat.le_trans (hw.sz x hx) (by decide), fun t' s' X => ⟨⟨t', rfl⟩, F.step X⟩⟩)
    have hrz : ∀ x ∈ ss.map List.reverse, x.length ≤ 10000 := fun x hx => by
      obtain ⟨v, hv', rfl⟩ := List.mem_map.mp hx
      rw [List.length_reverse]; exact hsz1 v hv'
    have hrn : ss.map List.reverse ≠ [] := by simpa using hw.ne
    walk_at "go"
    refine use (cp_spec (C.mono (by omega) (by omega)) (W.ext (small _) hD F.ext) (F.get (x := .list yr.toArray) (.head _)) (show SV yr.toArray.toList (ss.map List.reverse) from hyr) hrz (by rw [List.length_map]; omega)) fun r s' hr => ?_
    obtain ⟨⟨p, tp2, rfl, _, hp⟩, X'⟩ := hr
    have F2 := (F.step X').drop (List.sublist_cons_self _ _)
    clear F
    have F := F2
    clear F2
    obtain rfl := (hp hrn).eq hrn
    walk_at "go"
    refine comp_eval F [] rfl (by decide) rfl (by decide) rfl ?_
    walk_at "go"
    refine compSL F hh List.reverse (seqObj "list" ys nt) (fun C' mC pre s' F' => F'.get (x := .raw _) (List.mem_append_right _ (.head _))) ⟨nt, F.get (x := .raw _) (.head _)⟩ hv (by omega) (fun x tx pre C' s E' hx F => ?_) (fun acc yr s hyr F => ?_)
    · exact rev_eval (ld F rfl ⟨x, tx, rfl, Nat.le_trans (hw.sz x hx) (by decide), fun t' s' X => ⟨⟨t', rfl⟩, F.step X⟩⟩)
    walk_at "go"
    refine use (common_spec (C.mono (by omega) (by omega)) (W.ext (small _) hD F.ext) (F.get (x := .list yr.toArray) (.head _)) (show SV yr.toArray.toList (ss.map List.reverse) from hyr) hrn (by rw [List.length_map]; omega) hrz) fun r s' hr => ?_
    obtain ⟨⟨t2, rfl⟩, X'⟩ := hr
    have F2 := (F.step X').drop (List.sublist_cons_self _ _)
    clear F
    have F := F2
    clear F2
    walk_at "go"
    rw [if_neg (by simp)]
    walk_at "go"
    rw [if_neg (by decide)]
    walk_at "go"
    refine sortL F ⟨nt, F.get (x := .raw _) (.head _)⟩ hv (by omega) fun cT yt tt s hvt hperm hrise F hc => ?_
    obtain rfl : tt = isort ss := sort_eq hperm hrise
    walk_at "go"
    obtain ⟨nd, F⟩ := F.raw [] _ rfl
    replace F := F.as [("told", .ref cT), ("terms", .ref ta)] ⟨rfl, rfl, trivial⟩
    have hrl := rx_le (n := 23) (op := []) hw.good
    rw [List.length_nil, Nat.zero_add] at hrl
    refine inner_in (ws := isort ss) (op := (Str.ofString "").cps.toList) (news := [(cT, .raw (seqObj "list" yt.toArray nd)), (ta, .raw (seqObj "list" ys nt)), (I, .raw o), (P, .raw oP), (N, .list items), (g.heap.objs.size + 2, .cell vf), (g.heap.objs.size + 1, .cell (some (.ref P)))]) 23 hfr U hM hnd W F hT (by simp [ShFree, code_list, hoI, hoP ho]) (C.mono (by omega) (by omega)) rfl rfl ⟨nd, F.get (x := .raw _) (.head _)⟩ (by simpa using hvt) hw.good hw.mu (.inl lit_nil) ?_
    rw [show (Str.ofString "").cps.toList = [] from lit_nil]
    clear F hT; intro ti1 s Tl F hT
    walk_at "go"
    replace F := F.as [("inner", .str (S (rx 23 (isort ss) [])) ti1), ("told", .ref cT), ("terms", .ref ta)] ⟨rfl, rfl, rfl, trivial⟩
    refine inner_in (ws := isort ss) (op := (Str.ofString "(").cps.toList) (news := [(cT, .raw (seqObj "list" yt.toArray nd)), (ta, .raw (seqObj "list" ys nt)), (I, .raw o), (P, .raw oP), (N, .list items), (g.heap.objs.size + 2, .cell vf), (g.heap.objs.size + 1, .cell (some (.ref P)))]) 23 hfr U hM hnd W F hT (by simp [ShFree, code_list, hoI, hoP ho]) (C.mono (by omega) (by omega)) rfl rfl ⟨nd, F.get (x := .raw _) (.head _)⟩ (by simpa using hvt) hw.good hw.mu (.inr (.inl lit_lp)) ?_
    rw [lit_lp]
    clear F hT; intro t3 s Tl F hT
    walk_at "go"
    rw [lit_lp]
    refine addS F (by rw [List.length_cons, List.length_nil]; omega) ?_
    clear F; intro t4 s F
    walk_at "go"
    rw [lit_rp]
    refine addS F (by rw [List.length_append, List.length_cons, List.length_cons, List.length_nil]; omega) ?_
    clear F; intro t5 s F
    walk_at "go"
    rw [if_neg (by rw [rx_op [40] (by decide) hw.ine]; simp [clo])]
    walk_at "go"
    refine inner_in (ws := isort ss) (op := (Str.ofString "(?:").cps.toList) (news := [(cT, .raw (seqObj "list" yt.toArray nd)), (ta, .raw (seqObj "list" ys nt)), (I, .raw o), (P, .raw oP), (N, .list items), (g.heap.objs.size + 2, .cell vf), (g.heap.objs.size + 1, .cell (some (.ref P)))]) 23 hfr U hM hnd W F hT (by simp [ShFree, code_list, hoI, hoP ho]) (C.mono (by omega) (by omega)) rfl rfl ⟨nd, F.get (x := .raw _) (.head _)⟩ (by simpa using hvt) hw.good hw.mu (.inr (.inr lit_nc)) ?_
    rw [lit_nc]
    clear F hT; intro t6 s Tl F hT
    walk_at "go"
    rw [lit_nc]
    have hn3 : nc.length = 3 := rfl
    refine addS F (by omega) ?_
    clear F; intro t7 s F
    walk_at "go"
    rw [lit_rp]
    refine addS F (by simp only [List.length_append, List.length_cons, List.length_nil]; omega) ?_
    clear F; intro t8 s F
    walk_at "go"
    rw [if_neg (by rw [rx_op nc (by decide) hw.ine]; simp [clo])]
    walk_at "go"
    rw [if_neg (by decide)]
    walk_at "go"
    refine use (read_all w 23 (C.mono (by omega) (by omega)) (W.ext (small _) hD F.ext) (T := rx 23 (isort ss) []) (p := 0) (by omega) rfl (Nat.zero_le _) (rd_plain hw.ine hw.mu hw.good hw.few)) fun v s' hv2 => ?_
    obtain ⟨⟨b, y, q4, t9, Tn, rfl, htp, hq4, hq4l, hMd, hrep⟩, X'⟩ := hv2
    have hq4e : q4 = (rx 23 (isort ss) []).length := by
      have := congrArg List.length hq4
      simp only [List.length_drop, List.length_nil] at this
      omega
    subst hq4e
    have F2 := F.adds (F.step X') hMd
    clear F
    walk_at "go"
    refine tup2 hh F2 htp ?_
    clear F2; intro s F
    walk_at "go"
    have hwp := den_perm 23 (isort ss) hw.mu hw.good
    have hdl : (den 23 (isort ss)).length ≤ 7 := by rw [hwp.length_eq, (isort_perm ss).length_eq]; exact hlen
    refine use (texts_all w 49 (C.mono (by omega) (by omega)) (W.ext (small _) hD F.ext) (fun p hp => F.led p (List.mem_append_left _ hp)) hrep) fun v s' hv2 => ?_
    obtain ⟨⟨a2, zs, rfl, ha2, hla2, hvz⟩, X'⟩ := hv2
    have F2 := F.add (F.step X') ha2 (x := .list zs) hla2
    clear F
    have F := F2
    clear F2
    have hzl : zs.size = (den 23 (isort ss)).length := by rw [← Array.length_toList]; exact hvz.len
    walk_at "go"
    refine lenS F (by omega) ?_
    clear F; intro tl5 s F
    walk_at "go"
    rw [if_neg (by simp)]
    walk_at "go"
    refine inNone (Heap.PlainList.isList (F.get (x := .list _) (.head _))) hvz ?_
    walk_at "go"
    rw [if_neg (by decide)]
    walk_at "go"
    refine sortL F (F.get (x := .list _) (.head _)) hvz (by omega) fun c3 z1 ts1 s hz1 hts1 hrs1 F hc3 => ?_
    walk_at "go"
    have hts : ts1 = isort ss := rising_uniq hrs1 hw.good.up (hts1.trans hwp)
    subst hts
    have hu := Nat.lt_of_le_of_lt (Nat.le_add_right _ _) C.un
    refine neLs hu (Heap.PlainList.isList (F.get (x := .list _) (.head _))) (Heap.PlainList.isList ⟨nd, F.get (x := .raw _) (.tail _ (.tail _ (List.mem_append_right _ (.head _))))⟩) (by simpa using hz1) (by simpa using hvt) ?_
    walk_at "go"
    rw [if_neg (by simp)]
    walk_at "go"
    rw [if_neg (by decide)]
    walk_at "go"
    replace F := (F.drop (news' := (cT, .raw (seqObj "list" yt.toArray nd)) :: (ta, .raw (seqObj "list" ys nt)) :: (I, .raw o) :: (P, .raw oP) :: (N, .list items) :: (g.heap.objs.size + 2, .cell vf) :: (g.heap.objs.size + 1, .cell (some (.ref P))) :: Tl) (.cons _ (.cons _ (List.sublist_append_right _ _)))).as [("told", .ref cT), ("terms", .ref ta)] ⟨rfl, rfl, trivial⟩
    refine subST F ?_
    walk_at "go"
    refine callW0 (K := KK w) (by kernel_rfl) (W.ext (small _) hD F.ext).X (use (signs_spec (C.mono (by omega) (by omega)) (W.ext (small _) hD F.ext)) fun v s' hp => ?_)
    obtain ⟨⟨aS, yS, rfl, haS, hlS, hvS⟩, X1⟩ := hp
    have F2 := F.add (F.step X1) haS (x := .list yS) hlS
    clear F
    have F := F2
    clear F2
    walk_at "go"
    refine next_in (many := 10) (oP := oP) (k := k') [(aS, .list yS), (cT, _), (ta, _), (I, .raw o)] _ (C.mono (by omega) (by omega)) W hD F rfl ho (hNm F (by simp)) hnum hkP (by omega) (by decide) (by decide) ?_
    clear F; intro r0 tr0 s oP hr0 ho _ _ F
    obtain ⟨σ, hσ⟩ : ∃ σ, signsL[r0]? = some σ := ⟨_, List.getElem?_eq_getElem (by rw [signs_len]; exact hr0)⟩
    obtain ⟨tσ, hiσ⟩ := hvS.at hσ
    obtain ⟨hσ1, hσ2⟩ := signs_ok σ (List.mem_of_getElem? hσ)
    have hyS : yS.size = 10 := by rw [← Array.length_toList, hvS.len, signs_len]
    refine itemLT (items := yS) (x := .str (S σ) tσ) (Heap.PlainList.isList (F.get (x := .list _) (.head _))) (by omega) (by omega) (by rw [Int.toNat_natCast]; simpa using hiσ) ?_
    walk_at "go"
    refine next_in (many := 2) (oP := oP) (k := k' + 1) [(aS, .list yS), (cT, _), (ta, _), (I, .raw o)] _ (C.mono (by omega) (by omega)) W hD F rfl ho (hNm F (by simp)) hnum hkP (by omega) (by decide) (by decide) ?_
    clear F; intro r1 tr1 s oP hr1 ho _ _ F
    walk_at "go"
    rw [show (1 : Int) + (r1 : Int) = ((1 + r1 : Nat) : Int) by omega]
    refine ⟨σ, tσ, none, some ((1 + r1 : Nat) : Int), _, _, rfl, .none, .int _ _, F, by omega, ?_⟩
    clear F; intro tf s F
    rw [sl_to]
    obtain ⟨p, hpe⟩ : ∃ p, p = σ.take (1 + r1) := ⟨_, rfl⟩
    rw [← hpe]
    have hpl : p.length ≤ 2 := by rw [hpe, List.length_take]; omega
    refine stC (v := .str (S p) tf) [(aS, .list yS), (cT, _), (ta, _), (I, .raw o), (P, .raw oP), (N, .list items)] _ F rfl rfl ?_
    clear F; intro s F
    walk_at "go"
    replace F := F.drop (List.sublist_cons_self _ _)
    refine comp_eval F [("front", g.heap.objs.size + 2)] rfl (by decide) rfl (by decide) rfl ?_
    walk_at "go"
    have hfs : ∀ x ∈ isort ss, x.length ≤ 16 := fun x hx => hw.sz x ((isort_perm ss).mem_iff.mp hx)
    have hil : (isort ss).length ≤ 7 := by rw [(isort_perm ss).length_eq]; exact hlen
    refine compSL F hh (fun x => p ++ x) (seqObj "list" yt.toArray nd) (fun C' mC pre s' F' => F'.get (x := .raw _) (List.mem_append_right _ (.head _))) ⟨nd, F.get (x := .raw _) (.head _)⟩ (show SV yt.toArray.toList (isort ss) by simpa using hvt) (by omega) (fun x tx pre C' s E' hx F => ?_) (fun acc yl s hyl F => ?_)
    · have := hfs x hx
      refine wpAny_BinOp ?_
      refine ldC F (List.mem_append_right _ (by walk_at "mem")) rfl ?_
      refine ld F rfl ?_
      refine addS F (by omega) ?_
      clear F; intro t s F
      exact ⟨⟨t, rfl⟩, F⟩
    have hG2 := hw.fgood (p := p) (by omega)
    have hm2 := hw.fmu p
    have hf2 := hw.ffew (p := p) (by omega)
    have hne2 := hw.fine p
    have hl2 : ((isort ss).map (fun x => p ++ x)).length ≤ 7 := by rw [List.length_map]; exact hil
    obtain ⟨us2, hu2⟩ : ∃ us2, us2 = (isort ss).map (fun x => p ++ x) := ⟨_, rfl⟩
    rw [← hu2] at hG2 hm2 hf2 hne2 hl2 hyl
    have hrl2 := rx_le (n := 23) (op := []) hG2
    rw [List.length_nil, Nat.zero_add] at hrl2
    walk_at "go"
    refine inner_in (ws := us2) (op := (Str.ofString "").cps.toList) (news := [(acc, .list yl.toArray), (cT, .raw (seqObj "list" yt.toArray nd)), (ta, .raw (seqObj "list" ys nt)), (I, .raw o), (P, .raw oP), (N, .list items), (g.heap.objs.size + 2, .cell (some (.str (S p) tf))), (g.heap.objs.size + 1, .cell (some (.ref P)))]) 23 hfr U hM hnd W F hT (by simp [ShFree, code_list, hoI, hoP ho]) (C.mono (by omega) (by omega)) rfl rfl (F.get (x := .list _) (.head _)) (by simpa using hyl) hG2 hm2 (.inl lit_nil) ?_
    rw [show (Str.ofString "").cps.toList = [] from lit_nil]
    clear F hT; intro t10 s Tl F hT
    walk_at "go"
    refine use (read_all w 23 (C.mono (by omega) (by omega)) (W.ext (small _) hD F.ext) (T := rx 23 us2 []) (p := 0) (by omega) rfl (Nat.zero_le _) (rd_plain hne2 hm2 hG2 hf2)) fun v s' hv2 => ?_
    obtain ⟨⟨b2, y2, q5, t11, Tn2, rfl, htp2, _, _, hMd2, hrep2⟩, X'⟩ := hv2
    have F2 := F.adds (F.step X') hMd2
    clear F
    refine wpAny_Constant_int ?_
    refine PyProof.Rows.item_tupleT (l := [y2, .int q5 t11]) (j := 0) (x := y2) ⟨_, htp2, rfl, 0, rfl⟩ (by decide) (by decide) rfl rfl ?_
    have F := F2.tk (s'.toks + 1)
    clear F2
    generalize ({ s' with toks := s'.toks + 1 } : Shared) = s at F ⊢
    walk_at "go"
    have hwp2 := den_perm 23 us2 hm2 hG2
    have hdl2 : (den 23 us2).length ≤ 7 := by rw [hwp2.length_eq]; exact hl2
    refine use (texts_all w 49 (C.mono (by omega) (by omega)) (W.ext (small _) hD F.ext) (fun p hp => F.led p (List.mem_append_left _ hp)) hrep2) fun v s' hv2 => ?_
    obtain ⟨⟨a3, zs2, rfl, ha3, hla3, hvz2⟩, X'⟩ := hv2
    have F2 := F.add (F.step X') ha3 (x := .list zs2) hla3
    clear F
    have F := F2
    clear F2
    have hzl2 : zs2.size = (den 23 us2).length := by rw [← Array.length_toList]; exact hvz2.len
    walk_at "go"
    refine inNone (Heap.PlainList.isList (F.get (x := .list _) (.head _))) hvz2 ?_
    walk_at "go"
    rw [if_neg (by decide)]
    walk_at "go"
    refine sortL F (F.get (x := .list _) (.head _)) hvz2 (by omega) fun c4 z2 ts2 s hz2 hts2 hrs2 F hc4 => ?_
    rw [show ts2 = us2 from rising_uniq hrs2 hG2.up (hts2.trans hwp2)] at hz2
    walk_at "go"
    replace F := F.drop (news' := (c4, .list z2.toArray) :: (cT, .raw (seqObj "list" yt.toArray nd)) :: (ta, .raw (seqObj "list" ys nt)) :: (I, .raw o) :: (P, .raw oP) :: (N, .list items) :: (g.heap.objs.size + 2, .cell (some (.str (S p) tf))) :: (g.heap.objs.size + 1, .cell (some (.ref P))) :: Tl) (.cons_cons _ (.cons _ ((List.Sublist.cons (acc, .list yl.toArray) (.refl _)).trans (List.sublist_append_right Tn2 _))))
    refine comp_eval F [("front", g.heap.objs.size + 2)] rfl (by decide) rfl (by decide) rfl ?_
    walk_at "go"
    refine compSL F hh (fun x => p ++ x) (seqObj "list" yt.toArray nd) (fun C' mC pre s' F' => F'.get (x := .raw _) (List.mem_append_right _ (.tail _ (.head _)))) ⟨nd, F.get (x := .raw _) (.tail _ (.head _))⟩ (show SV yt.toArray.toList (isort ss) by simpa using hvt) (by omega) (fun x tx pre C' s E' hx F => ?_) (fun acc2 yl2 s hyl2 F => ?_)
    · have := hfs x hx
      refine wpAny_BinOp ?_
      refine ldC F (List.mem_append_right _ (by walk_at "mem")) rfl ?_
      refine ld F rfl ?_
      refine addS F (by omega) ?_
      clear F; intro t s F
      exact ⟨⟨t, rfl⟩, F⟩
    rw [← hu2] at hyl2
    refine neLs hu (Heap.PlainList.isList (F.get (x := .list z2.toArray) (.tail _ (.head _)))) (Heap.PlainList.isList (F.get (x := .list yl2.toArray) (.head _))) (by simpa using hz2) (by simpa using hyl2) ?_
    walk_at "go"
    rw [if_neg (by simp)]
    walk_at "go"
    replace F := F.drop (.cons _ (.cons _ (.refl _)))
    refine comp_eval F [("front", g.heap.objs.size + 2)] rfl (by decide) rfl (by decide) rfl ?_
    walk_at "go"
    refine compSL F hh (fun x => p ++ x) (seqObj "list" ys nt) (fun C' mC pre s' F' => F'.get (x := .raw _) (List.mem_append_right _ (.tail _ (.head _)))) ⟨nt, F.get (x := .raw _) (.tail _ (.head _))⟩ hv (by omega) (fun x tx pre C' s E' hx F => ?_) (fun acc3 yr s hyr F => ?_)
    · have := hw.sz x hx
      refine wpAny_BinOp ?_
      refine ldC F (List.mem_append_right _ (by walk_at "mem")) rfl ?_
      refine ld F rfl ?_
      refine addS F (by omega) ?_
      clear F; intro t s F
      exact ⟨⟨t, rfl⟩, F⟩
    walk_at "go"
    refine use (cp_spec (C.mono (by omega) (by omega)) (W.ext (small _) hD F.ext) (F.get (x := .list yr.toArray) (.head _)) (show SV yr.toArray.toList (ss.map fun x => p ++ x) from hyr) (fun x hx => by
      obtain ⟨v, hv', rfl⟩ := List.mem_map.mp hx
      have := hw.sz v hv'
      rw [List.length_append]; omega) (by rw [List.length_map]; omega)) fun r s' hr => ?_
    obtain ⟨⟨q, tq, rfl, _, hq⟩, X'⟩ := hr
    have F2 := (F.step X').drop (List.sublist_cons_self _ _)
    clear F
    have F := F2
    clear F2
    have hne3 : ss.map (fun x => p ++ x) ≠ [] := by simpa using hw.ne
    obtain rfl : q = p ++ cpL ss := ((hq hne3).eq hne3).trans (cpL_front hw.ne)
    walk_at "go"
    refine use (common_spec (C.mono (by omega) (by omega)) (W.ext (small _) hD F.ext) ⟨nt, F.get (x := .raw _) (.tail _ (.head _))⟩ hv hw.ne (by omega) hsz1) fun r s' hr => ?_
    obtain ⟨⟨t12, rfl⟩, X'⟩ := hr
    have F2 := F.step X'
    clear F
    have F := F2
    clear F2
    have hcl : (cpL ss).length ≤ 16 := Nat.le_trans ((cpL_is hw.ne).1 _ (List.getElem_mem hss0)).length_le (hw.sz _ (List.getElem_mem hss0))
    refine addS F (by omega) ?_
    clear F; intro t13 s F
    walk_at "go"
    rw [if_neg (by simp)]
    walk_at "go"
    rw [if_neg (by decide)]
    walk_at "go"
    refine comp_assign F [("state", g.heap.objs.size + 1)] rfl rfl (by decide) rfl (by decide) rfl rfl rfl rfl ?_
    walk_at "go"
    refine next_in (many := 5) (oP := oP) (k := k' + 2) [(cT, _), (ta, _), (I, .raw o)] _ (C.mono (by omega) (by omega)) W hD F rfl ho (hNm F (by simp)) hnum hkP (by omega) (by decide) (by decide) ?_
    clear F; intro r2 tr2 s oP hr2 ho _ _ F
    walk_at "go"
    rw [show (1 : Int) + (r2 : Int) = ((1 + r2 : Nat) : Int) by omega]
    refine compRng F hh (fun i ys2 nw => ∃ (oP : Obj) (cs : List Nat), nw = (cT, .raw (seqObj "list" yt.toArray nd)) :: (ta, .raw (seqObj "list" ys nt)) :: (I, .raw o) :: (P, .raw oP) :: (N, .list items) :: (g.heap.objs.size + 2, .cell (some (.str (S p) tf))) :: (g.heap.objs.size + 1, .cell (some (.ref P))) :: Tl ∧ StO oP N (k' + 3 + i) ∧ cs.length = i ∧ SV ys2 (cs.map fun c => [c])) (by omega) ⟨oP, [], rfl, ho, rfl, .nil⟩ (fun j t ys2 pre nw C' s E' hj2 hj F => ?_) (fun acc ys2 nw s hlen2 hj F => ?_)
    · obtain ⟨oP, cs, rfl, ho, hcl2, hsv⟩ := hj
      refine Subscript_ ?_
      iterate 5 walk_at "m"
      refine ldC F (List.mem_append_right _ (by walk_at "mem")) rfl ?_
      walk_at "go"
      refine next_in (many := 8) (oP := oP) (k := k' + 3 + j) (pre ++ [(cT, .raw (seqObj "list" yt.toArray nd)), (ta, .raw (seqObj "list" ys nt)), (I, .raw o)]) ((N, .list items) :: (g.heap.objs.size + 2, .cell (some (.str (S p) tf))) :: (g.heap.objs.size + 1, .cell (some (.ref P))) :: Tl) (C.mono (by omega) (by omega)) W hD F (by simp) ho (hNm F (by simp)) hnum hkP (by omega) (by decide) (by decide) ?_
      clear F; intro r4 tr4 s oP hr4 ho _ _ F
      obtain ⟨c, hc⟩ := letter_at hr4
      refine itemS F (c := c) (Int.natCast_nonneg _) letters_len (by rw [Int.toNat_natCast]; exact hc) ?_
      clear F; intro t14 s F
      rw [List.append_assoc] at F
      exact ⟨_, ⟨oP, cs ++ [c], rfl, ho, by simp [hcl2], by rw [List.map_append]; exact hsv.snoc _ _⟩, F⟩
    obtain ⟨oP, cs, rfl, ho, hcl2, hsv⟩ := hj
    have hflat : (cs.map fun c => [c]).flatten = cs := by rw [← List.flatMap_def]; exact List.flatMap_singleton' cs
    clear F; intro s F
    walk_at "go"
    refine use (charset_spec (C.mono (by omega) (by omega)) (W.ext (small _) hD F.ext) (F.get (x := .list ys2.toArray) (.head _)) (show SV ys2.toArray.toList (cs.map fun c => [c]) from hsv) (by rw [← flat_sum, hflat]; omega)) fun r s' hr => ?_
    obtain ⟨⟨t15, rfl⟩, X'⟩ := hr
    have F2 := F.step X'
    clear F
    have F := F2
    clear F2
    rw [hflat]
    walk_at "go"
    have hcz : (cs.flatMap csC).length ≤ 2 * cs.length := csF_len cs
    have hcsl : (csOf cs).length = (cs.flatMap csC).length + 2 := by simp [csOf]
    refine itemS F (c := 91) (by decide) (by omega) rfl ?_
    clear F; intro t16 s F
    walk_at "go"
    rw [lit_lb, if_neg (by decide)]
    walk_at "go"
    refine use (lawset_spec (C.mono (by omega) (by omega)) (W.ext (small _) hD F.ext) (T := csOf cs) (p := 1) (cs := cs) (l := []) (by omega) (by simp [csOf]) (by omega)) fun v s' hv2 => ?_
    obtain ⟨⟨T3, a5, ys5, t17, rfl, hT3, ha5, hne5, htp5, hl5, hv5⟩, X'⟩ := hv2
    have F2 := F.adds (T := [(T3, .raw (seqObj "tuple" #[.ref a5, .int ((1 + (cs.flatMap csC).length : Nat) : Int) t17] 0)), (a5, .list ys5)]) (F.step X') ⟨fun p hp => by
      rcases List.mem_cons.mp hp with rfl | hp
      · exact htp5
      · rw [List.mem_singleton.mp hp]; exact hl5, fun p hp => by
      rcases List.mem_cons.mp hp with rfl | hp
      · exact hT3
      · rw [List.mem_singleton.mp hp]; exact ha5, by simpa using hne5⟩
    clear F
    have F := F2
    clear F2
    walk_at "go"
    refine lenS F (by omega) ?_
    clear F; intro tl6 s F
    walk_at "go"
    rw [show ((csOf cs).length : Int) - 1 = ((1 + (cs.flatMap csC).length : Nat) : Int) by omega]
    refine newT F (by simp) fun T4 s F hT4 => ?_
    have hnd9 := F.nd
    refine neTup (by have := C.un; omega) ⟨_, F.get (x := .raw _) (.tail _ (.head _)), rfl, 0, rfl⟩ ⟨_, F.get (x := .raw _) (.head _), rfl, 0, rfl⟩ (Heap.PlainList.isList (F.get (x := .list ys5) (.tail _ (.tail _ (.head _))))) (Heap.PlainList.isList (F.get (x := .list ys2.toArray) (.tail _ (.tail _ (.tail _ (.head _)))))) hv5 (show SV ys2.toArray.toList (cs.map fun c => [c]) from hsv) (fun e => ?_) ?_
    · subst e
      simp at hnd9
    walk_at "go"
    rw [if_neg (by decide)]
    walk_at "go"
    rw [if_neg (by decide)]
    walk_at "go"
    exact ⟨_, _, F.drop (news' := (I, .raw o) :: (P, .raw oP) :: (N, .list items) :: (g.heap.objs.size + 2, .cell (some (.str (S p) tf))) :: (g.heap.objs.size + 1, .cell (some (.ref P))) :: Tl) (.cons _ (.cons _ (.cons _ (.cons _ (.cons _ (.cons _ (.refl _))))))), oP, k' + 3 + (1 + r2), some (.str (S p) tf), Tl, rfl, ho, by omega, hT⟩
  · clear F hT Tl oP hPo hPc nP hPd
    rintro m nw s ⟨oP, k, vf, Tl, rfl, ho, hk, hT⟩ F
    replace F := F.as [] trivial
    have hoP : ∀ {o : Obj} {n : Nat}, StO o N n → CodeFree o := fun h vs e => by obtain ⟨_, t, n, e2⟩ := h; rw [e2] at e; cases e
    walk_at "go"
    refine newL F (by simp) fun l1 s F hl1 => ?_
    walk_at "go"
    refine use (cp_spec (ss := []) (C.mono (by omega) (by omega)) (W.ext (small _) hD F.ext) (F.get (x := .list _) (.head _)) .nil (by simp) (by simp)) fun r s' hr => ?_
    obtain ⟨⟨q, tq, rfl, hq, _⟩, X'⟩ := hr
    obtain rfl := hq rfl
    have F2 := (F.step X').drop (List.sublist_cons_self _ _)
    clear F
    have F := F2
    clear F2
    walk_at "go"
    rw [lit_nil', if_pos (by decide)]
    walk_at "go"
    refine newL F (by simp) fun l2 s F hl2 => ?_
    walk_at "go"
    refine inner_in (ws := []) (op := (Str.ofString "(").cps.toList) (news := [(l2, .list _), (P, .raw oP), (N, .list items), (g.heap.objs.size + 2, .cell vf), (g.heap.objs.size + 1, .cell (some (.ref P)))]) 23 hfr U hM hnd W F hT (by simp [ShFree, hoP ho]) (C.mono (by omega) (by omega)) rfl rfl (F.get (x := .list _) (.head _)) .nil good_nil (by decide) (.inr (.inl lit_lp)) ?_
    rw [lit_lp]
    clear F hT; intro t20 s Tl F hT
    walk_at "go"
    rw [lit_nil', if_pos (by decide)]
    walk_at "go"
    refine newL F (by simp) fun l3 s F hl3 => ?_
    walk_at "go"
    refine ropt_in (us := []) (ws := []) (p := (Str.ofString "x").cps.toList) (q := (Str.ofString "y").cps.toList) (news := [(l3, .list _), (l2, .list _), (P, .raw oP), (N, .list items), (g.heap.objs.size + 2, .cell vf), (g.heap.objs.size + 1, .cell (some (.ref P)))]) 23 hfr U hM hnd W F hT (by simp [ShFree, hoP ho]) (C.mono (by omega) (by omega)) rfl rfl (fun pm _ => binds_K (binds := [("strings", .ref l3), ("prefix", .str (S (Str.ofString "x").cps.toList) _), ("suffix", .str (S (Str.ofString "y").cps.toList) _)]) (W.ext (small _) hD F.ext).X rfl hkd hds rfl rfl) ?_ ⟨good_nil, fun y => Iff.rfl⟩ (by decide) (by decide +kernel) (by decide +kernel) ?_
    · intro A s2 Q E hh2 X2 hset
      exact set_list hh2 (items := #[]) (Heap.PlainList.isList (Sh.at_keep (x := .list _) (F.get (x := .list _) (.head _)) fun o e => X2.keep _ _ (by simp) e)) .nil (by simp) hset
    clear F hT; intro t21 s Tl F hT
    walk_at "go"
    have hxy : (Str.ofString "x").cps.toList ++ rx 23 [] [40] ++ (Str.ofString "y").cps.toList = (Str.ofString "xy").cps.toList := by
      rw [show rx 23 [] [40] = [] from rfl]; decide +kernel
    rw [decide_eq_true hxy]
    have T9 := hT.2 _ _ _ s (fun x hx => List.mem_append_right _ hx) F
    obtain ⟨_, ps, hps, _⟩ := T9
    exact ⟨_, rfl, rfl, ⟨ps, hps⟩, F.ext⟩

theorem ints_len : ∀ {vs : List Value} {ns : List Int}, IntsAre vs ns → vs.length = ns.length
  | _, _, .nil => rfl
  | _, _, .cons _ _ h => by simp [ints_len h]
theorem table_at {w : World} {h : Heap} (X : (KK w).In h) (e : h.get? 145 = some (tabObj #[])) : h.TableAt 147 145 #[] := by
  have hk : ∃ vs, (KK w).lookup 147 = some ⟨.type "code", none, .fields vs, #[]⟩ ∧ vs[11]? = some (.ref 145) := ⟨_, rfl, rfl⟩
  obtain ⟨vs, h1, h2⟩ := hk
  exact ⟨⟨_, vs, X 147 _ h1, rfl, rfl, h2⟩, e⟩
theorem caller_cx : Cx callerA 300 4000 := ⟨rfl, by decide, by decide⟩
theorem caller_fr : callerA.frames = some [] := rfl
/-- the program's text, at the law's address -/
theorem oldK_of {s s' : Shared} {ps : Array Value} {c : Addr} (ht : s.heap.TableAt c 145 #[]) (h : s'.heap.get? 145 = some (tabObj ps)) (x : Ext [145] s s') : OldK s.heap s'.heap := by
  refine ⟨fun b o e => ?_, fun b o e => ?_⟩
  · by_cases hb : b = 145
    · subst hb
      have e0 : o = tabObj #[] := Option.some.inj (e.symm.trans ht.2)
      subst e0
      exact .inr (.inl ⟨ht.isCodeTable, rfl, #[], ps, rfl, by rw [h]; simp [tabObj]⟩)
    · exact .inl (x.keep b o (by simpa using hb) e)
  · by_cases hb : b = 145
    · subst hb; exact ⟨_, h⟩
    · exact ⟨o, x.keep b o (by simpa using hb) e⟩
theorem top02 : PySem.Challenge.rw_ev0004_02.Holds := hd1 (by
  intro w s₀ s₁ mg mb G Y fa o pm cd doc dV kV ho hd hcd hD hmg hg args vals as hpre hlay hrd hwl hlo
  have KX := km_in_of Y
  have hT8 := km_tabs_of Y
  refine Ground.open G ?_
  intro T B D TE TW
  have W : Wo (KK w) s₁.heap := ⟨KX, ⟨mg, T.g⟩, ⟨mb, T.b, T.builtins⟩, T.nolimit⟩
  have hfa : fa = 213 := by
    have h1 : mg "law" = some (.ref 213) := mg_of KX T.g (by kernel_rfl)
    have h2 : mg "law" = some (.ref fa) := hmg
    rw [h1] at h2; injection h2 with h2; injection h2 with h2; exact h2.symm
  have hM : ModOk s₁.heap := by
    obtain ⟨bm, ob, h1, _, h3, h4, h5, h6⟩ := T.bmain
    have h2 : mg "__builtins__" = some (.ref 4) := mg_of KX T.g (by kernel_rfl)
    rw [h1] at h2; injection h2 with h2; injection h2 with h2
    subst h2
    exact ⟨ob, h3, h4, h5, h6⟩
  subst hfa
  wrow_args hpre hlay hrd hwl hlo
  all_goals (refine enter_call ?_)
  rename_i ns _ _ _ _ _ _ _ a vs _ hL _ _ _ hI _ hc _
  refine codeAny_mono (law_spec caller_cx caller_fr W hM (hT8 145 (by simp)) hL hI (by have h1 := ints_len hI; omega)) fun r s' h => ?_
  obtain ⟨v, rfl, rfl, ⟨ps, hps⟩, x⟩ := h
  have hta := table_at KX (hT8 145 (by simp))
  refine ⟨.inl ⟨_, .bool true, [], rfl, ?_, ?_, ?_, ?_⟩, oldK_of hta hps x, x.os, x.bare (by rw [hg]; exact AllBare.empty)⟩
  · exact fun cls => rfl
  · exact .bool true
  · wrow_post
  · exact fun _ => ⟨List.nodup_nil, fun _ h => nomatch h⟩)

end Mine
theorem PySem.Challenge.cw_ev0004_02_holds : PySem.Challenge.rw_ev0004_02.Holds := by
  exact Mine.top02
