import PyProof.Rows.All
import Wide.All
import OpenK.AllK
import Wide.FinOn
import PySem.Challenge.RW_fw0004_01
/-! part FTop -/
section
open PySem PySem.W PyProof.Rows
set_option Elab.async false
set_option maxRecDepth 100000 
set_option maxHeartbeats 8000000 
namespace Mine
open_top hd for PySem.Challenge.rw_fw0004_01
end Mine
end
/-! part C0 -/
section
open PySem PySem.W PyProof.Rows
set_option Elab.async false
set_option maxRecDepth 100000
set_option maxHeartbeats 8000000
namespace Mine
abbrev Led := List (Addr × Obj)
noncomputable abbrev looseG : List Str := looseW Mine.hd.view_39 [] ++ (recsOf Mine.hd.view_39).map (·.name) ++ (litsOf Mine.hd.view_39).map (·.1) ++ (clssOf Mine.hd.view_39 (looseW Mine.hd.view_39 [])).map (·.name)

/-- what a def of the text hands back, called from any frame of a def, with any ledger -/
def Con (lv : Nat) (w : World) (mean : ExcName → Option Value) (mg mb : Str → Option Value) (f : Addr) (vs : List Value) (news : Led)
    (Ret : Heap → Addr → (Str → Option Value) → Shared → (Value → Shared → Prop) → Prop) : Prop :=
  ∀ (dp un : Nat) (gd : Option (List Code)) (cn : Str) (cs : Scope) (a : Addr) (ccd : Value) (cl : List (Str × Addr)) (outer : List Env) (A₀ : Around) (base h₀ : Heap) (L : Addr) (m : Str → Option Value) (s : Shared) (Q E : Value → Shared → Prop),
    Below A₀ base outer h₀ → Fr h₀ L s.heap m → (Mine.hd.heap_39 w.params).In h₀ → News h₀ L s.heap news → Top topProg looseG mean mg mb h₀ → cs.kind = .function →
    dp + 4 * lv + 4 < recursionLimit → un + 40 * lv + 40 < cLine → Ret h₀ L m s Q →
      wpAny (model PySem.Challenge.rw_fw0004_01.row.prog w) (ktrTop dp un gd cn cs L a ccd cl outer) (call (.ref f) vs) Q E s

def RetInt (news : Led) (x : Int) (h₀ : Heap) (L : Addr) (m : Str → Option Value) (s : Shared) (Q : Value → Shared → Prop) : Prop :=
  ∀ (t : Tok) (h' : Heap) (tk' : Nat), Fr h₀ L h' m → News h₀ L h' news → Q (.int x t) { s with heap := h', toks := tk' }
def RetBool (news : Led) (x : Bool) (h₀ : Heap) (L : Addr) (m : Str → Option Value) (s : Shared) (Q : Value → Shared → Prop) : Prop :=
  ∀ (h' : Heap) (tk' : Nat), Fr h₀ L h' m → News h₀ L h' news → Q (.bool x) { s with heap := h', toks := tk' }
def RetStr (news : Led) (x : Str) (h₀ : Heap) (L : Addr) (m : Str → Option Value) (s : Shared) (Q : Value → Shared → Prop) : Prop :=
  ∀ (t : Tok) (h' : Heap) (tk' : Nat), Fr h₀ L h' m → News h₀ L h' news → Q (.str x t) { s with heap := h', toks := tk' }
def RetInts (news : Led) (xs : List Int) (h₀ : Heap) (L : Addr) (m : Str → Option Value) (s : Shared) (Q : Value → Shared → Prop) : Prop :=
  ∀ (l : Addr) (ws : List Value) (n : Nat) (h' : Heap) (tk' : Nat), IntsAre ws xs → PyProof.Rows.LCg.Off1 l news → Fr h₀ L h' m → News h₀ L h' ((l, listOf ws.toArray n) :: news) → Q (.ref l) { s with heap := h', toks := tk' }


end Mine
end
/-! part B1 -/
section
open PySem PySem.W PyProof.Rows
set_option Elab.async false
set_option maxRecDepth 100000
namespace Mine
section
variable {prog : Program} {w : World} {A : Around} {E : Value → Shared → Prop} {s : Shared} {env : Env} {h₀ : Heap} {x : Str} {body : List Stmt} {Q : Flow → Shared → Prop}

abbrev L1S (nm : Str) (x : Str) (stored : List Str) (m₀ : Str → Option Value) (news : Led) (P : List Int → Int → Prop) (pre : List Int) (m : Str → Option Value) (nx : Led) : Prop :=
  KstS (σ := Int × Tok) (fun _ => news) (fun c => [(nm, .int c.1 c.2)]) (fun _ => True) x stored m₀ (fun pre c => P pre c.1) pre m nx

/-- a turn's end of a loop that changes one name's int -/
def L1End (nm : Str) (x : Str) (stored : List Str) (m₀ : Str → Option Value) (news : Led) (P : List Int → Int → Prop) (pre : List Int) (own : Led) (h₀ : Heap) (L : Addr) (s₁ : Shared) (Q : Flow → Shared → Prop) (f : Flow) (s₂ : Shared) : Prop :=
  InvPostN h₀ L (L1S nm x stored m₀ news P pre) own (news.map (·.1)) s₁ Q f s₂

theorem l1_end {nm : Str} {stored : List Str} {m₀ : Str → Option Value} {news : Led} {P : List Int → Int → Prop} {pre : List Int} {own news' : Led} {L : Addr} {s₁ : Shared} {h' : Heap} {tk : Nat} {m' : Str → Option Value} {c : Int} {t : Tok}
    (F : Fr h₀ L h' m') (N : News h₀ L h' news') (hn : ∀ p ∈ news, p ∈ news') (ho : ∀ p ∈ own, p ∈ news') (hk : m' nm = some (.int c t)) (hr : ∀ z, z ≠ x → z ≠ nm → stored.contains z = false → m' z = m₀ z) (hp : P pre c) :
    L1End nm x stored m₀ news P pre own h₀ L s₁ Q .next { s₁ with heap := h', toks := tk } := by
  refine InvEndN.intro (nx := news) F N ⟨(c, t), rfl, trivial, ?_, ?_, hp⟩ rfl hn ho
  · intro p hp'; rw [List.mem_singleton.mp hp']; exact hk
  · intro z h1 h2 h3; exact hr z h1 (h2 _ (List.mem_singleton.mpr rfl)) h3

theorem loop1 {l : Addr} {vs : List Value} {ns : List Int} {nn : Nat} {m₀ : Str → Option Value} (nm : Str) (stored : List Str) (P : List Int → Int → Prop) {news : Led} {c₀ : Int} {t₀ : Tok}
    (hh : A.handled = none) (hl : (l, listOf vs.toArray nn) ∈ news) (hi : IntsAre vs ns) (F : Fr h₀ env.locals s.heap m₀) (N : News h₀ env.locals s.heap news) (hk : m₀ nm = some (.int c₀ t₀)) (hp : P [] c₀)
    (turn : ∀ c tc pre post v t (u : Str → Option Value) h tk own, ns = pre ++ v :: post → v ∈ ns → P pre c →
      Fr h₀ env.locals h (fun y => if y = x then some (.int v t) else kstB (fun z => if stored.contains z then u z else m₀ z) [(nm, .int c tc)] y) → News h₀ env.locals h (news ++ own) →
      wpAny (model prog w) A (execs body env) (L1End nm x stored m₀ news P (pre ++ [v]) own h₀ env.locals { s with heap := h, toks := tk } Q) E { s with heap := h, toks := tk })
    (done : ∀ c tc (u : Str → Option Value) h tk, P ns c → Fr h₀ env.locals h (fun y => if y = x then u y else kstB (fun z => if stored.contains z then u z else m₀ z) [(nm, .int c tc)] y) → News h₀ env.locals h news → Q .next { s with heap := h, toks := tk }) :
    wpAny (model prog w) A (pyIter (.ref l)) (fun it s₂ => LoopAtV prog w A h₀ env x body Q E it s₂) E s := by
  refine kst_listL (σ := Int × Tok) (fun _ => news) (fun c => [(nm, .int c.1 c.2)]) (fun _ => True) stored (fun pre c => P pre c.1) (c₀, t₀) hh (fun _ => hl) hi F N trivial ?_ hp ?_ ?_
  · intro p hp'; rw [List.mem_singleton.mp hp']; exact hk
  · rintro ⟨c, tc⟩ pre post n t u h tk own h1 h2 _ _ hP F₁ N₁
    exact turn c tc pre post n t u h tk own h1 h2 hP F₁ N₁
  · rintro ⟨c, tc⟩ u h tk _ hP F₁ N₁
    exact done c tc u h tk hP F₁ N₁

theorem loop1_range {r : Addr} {a₀ b₀ : Int} {t₁ u₀ v₀ : Tok} {n : Nat} {m₀ : Str → Option Value} (nm : Str) (stored : List Str) (P : List Int → Int → Prop) {news : Led} {c₀ : Int} {t₀ : Tok}
    (hh : A.handled = none) (hr : IsRange s.heap r a₀ b₀ 1 t₁ u₀ v₀) (hsmall : Builtin.Range.small a₀ b₀ 1 = true) (hn : Builtin.Range.rangeSize a₀ b₀ 1 = (n : Int)) (F : Fr h₀ env.locals s.heap m₀) (N : News h₀ env.locals s.heap news) (hk : m₀ nm = some (.int c₀ t₀)) (hp : P [] c₀)
    (turn : ∀ c tc (pre : List Int) (k : Int) t (u : Str → Option Value) h tk own, k = a₀ + (pre.length : Int) → pre.length < n → P pre c →
      Fr h₀ env.locals h (fun y => if y = x then some (.int k t) else kstB (fun z => if stored.contains z then u z else m₀ z) [(nm, .int c tc)] y) → News h₀ env.locals h (news ++ own) →
      wpAny (model prog w) A (execs body env) (L1End nm x stored m₀ news P (pre ++ [k]) own h₀ env.locals { s with heap := h, toks := tk } Q) E { s with heap := h, toks := tk })
    (done : ∀ c tc (u : Str → Option Value) h tk, P (rangeKs a₀ n) c → Fr h₀ env.locals h (fun y => if y = x then u y else kstB (fun z => if stored.contains z then u z else m₀ z) [(nm, .int c tc)] y) → News h₀ env.locals h news → Q .next { s with heap := h, toks := tk }) :
    wpAny (model prog w) A (pyIter (.ref r)) (fun it s₂ => LoopAtV prog w A h₀ env x body Q E it s₂) E s := by
  refine kst_range (σ := Int × Tok) (fun _ => news) (fun c => [(nm, .int c.1 c.2)]) (fun _ => True) stored (fun pre c => P pre c.1) (c₀, t₀) hh hr hsmall hn F N trivial ?_ hp ?_ ?_
  · intro p hp'; rw [List.mem_singleton.mp hp']; exact hk
  · rintro ⟨c, tc⟩ pre k t u h tk own h1 h2 _ _ hP F₁ N₁
    exact turn c tc pre k t u h tk own h1 h2 hP F₁ N₁
  · rintro ⟨c, tc⟩ u h tk _ hP F₁ N₁
    exact done c tc u h tk hP F₁ N₁
end

/-- a halt of the walk: the next step is typed by hand -/
def Halt (P : Prop) : Prop := P
theorem Halt.mk {P : Prop} (h : Halt P) : P := h
theorem Halt.go {P : Prop} (h : P) : Halt P := h

theorem allLt_mem {d : Addr} : ∀ {l : Led}, AllLt d l → ∀ p ∈ l, p.1 < d
  | [], _, _, h => nomatch h
  | q :: r, x, p, h => by
    rcases List.mem_cons.mp h with rfl | h
    · exact x.1
    · exact allLt_mem x.2 p h
theorem off1_lt {d : Addr} : ∀ {l : Led}, AllLt d l → LCg.Off1 d l
  | [], _ => trivial
  | _ :: _, x => ⟨Nat.ne_of_lt x.1, off1_lt x.2⟩
theorem off1_of {d : Addr} : ∀ {l : Led}, (∀ p ∈ l, p.1 < d) → LCg.Off1 d l
  | [], _ => trivial
  | _ :: _, x => ⟨Nat.ne_of_lt (x _ (.head _)), off1_of fun p hp => x p (.tail _ hp)⟩
theorem ret_int {news news' : Led} {x y : Int} {h₀ h' : Heap} {L : Addr} {m : Str → Option Value} {s : Shared} {Q : Value → Shared → Prop} {t : Tok} {tk' : Nat}
    (R : RetInt news x h₀ L m s Q) (e : y = x) (F : Fr h₀ L h' m) (N : News h₀ L h' news') (hs : ∀ p ∈ news, p ∈ news') : Q (.int y t) { s with heap := h', toks := tk' } := by
  subst e
  exact R t h' tk' F fun p hp => N p (hs p hp)
theorem ret_bool {news news' : Led} {x y : Bool} {h₀ h' : Heap} {L : Addr} {m : Str → Option Value} {s : Shared} {Q : Value → Shared → Prop} {tk' : Nat}
    (R : RetBool news x h₀ L m s Q) (e : y = x) (F : Fr h₀ L h' m) (N : News h₀ L h' news') (hs : ∀ p ∈ news, p ∈ news') : Q (.bool y) { s with heap := h', toks := tk' } := by
  subst e
  exact R h' tk' F fun p hp => N p (hs p hp)
theorem ret_str {news news' : Led} {x y : Str} {h₀ h' : Heap} {L : Addr} {m : Str → Option Value} {s : Shared} {Q : Value → Shared → Prop} {t : Tok} {tk' : Nat}
    (R : RetStr news x h₀ L m s Q) (e : y = x) (F : Fr h₀ L h' m) (N : News h₀ L h' news') (hs : ∀ p ∈ news, p ∈ news') : Q (.str y t) { s with heap := h', toks := tk' } := by
  subst e
  exact R t h' tk' F fun p hp => N p (hs p hp)
theorem ret_ints {news news' : Led} {xs ys : List Int} {ws : List Value} {n : Nat} {l : Addr} {h₀ h' : Heap} {L : Addr} {m : Str → Option Value} {s : Shared} {Q : Value → Shared → Prop} {tk' : Nat}
    (R : RetInts news xs h₀ L m s Q) (hi : IntsAre ws ys) (e : ys = xs) (F : Fr h₀ L h' m) (N : News h₀ L h' news') (hm : (l, listOf ws.toArray n) ∈ news') (hl : PyProof.Rows.LCg.Off1 l news) (hs : ∀ p ∈ news, p ∈ news') : Q (.ref l) { s with heap := h', toks := tk' } := by
  subst e
  refine R l ws n h' tk' hi hl F fun p hp => ?_
  rcases List.mem_cons.mp hp with rfl | hp
  · exact N _ hm
  · exact N p (hs p hp)

theorem Con.use {lv : Nat} {w : World} {mean : ExcName → Option Value} {mg mb : Str → Option Value} {f : Addr} {vs : List Value} {news : Led}
    {Ret : Heap → Addr → (Str → Option Value) → Shared → (Value → Shared → Prop) → Prop} (C : Con lv w mean mg mb f vs news Ret)
    {dp un : Nat} {gd : Option (List Code)} {cn : Str} {cs : Scope} {a : Addr} {ccd : Value} {cl : List (Str × Addr)} {outer : List Env} {A₀ : Around} {base h₀ : Heap} {L : Addr} {m : Str → Option Value} {s : Shared} {Q E : Value → Shared → Prop}
    (B : Below A₀ base outer h₀) (F : Fr h₀ L s.heap m) (X : (Mine.hd.heap_39 w.params).In h₀) (N : News h₀ L s.heap news) (T : Top topProg looseG mean mg mb h₀) (hk : cs.kind = .function)
    (hd : dp + 4 * lv + 4 < recursionLimit) (hu : un + 40 * lv + 40 < cLine) (ret : Ret h₀ L m s Q) :
      wpAny (model PySem.Challenge.rw_fw0004_01.row.prog w) (ktrTop dp un gd cn cs L a ccd cl outer) (call (.ref f) vs) Q E s :=
  C dp un gd cn cs a ccd cl outer A₀ base h₀ L m s Q E B F X N T hk hd hu ret
end Mine
end
/-! part B2 -/
section
open PySem PySem.W PyProof.Rows
set_option Elab.async false
set_option maxRecDepth 100000
namespace Mine
open LCg PySem.Calls
section
variable {prog : Program} {w : World} {A : Around} {E : Value → Shared → Prop} {s : Shared} {h₀ : Heap} {L : Addr} {m : Str → Option Value} {env : Env}

theorem striter_st {ty : String} {xt : Str} {t : Tok} {I : Addr} : ∀ i (h h' : Heap) (o : Obj) (nw : List (Addr × Obj)), h.IsStrIter I ty xt t i → h.get? I = some o → h'.get? I = some o → (∀ b o, h₀.get? b = some o → h'.get? b = some o) → News h₀ L h' nw → True → h'.IsStrIter I ty xt t i :=
  fun i h h' o nw st e e' _ _ _ => by
    obtain ⟨o', q, r⟩ := st
    rw [e] at q; cases q
    exact ⟨o, e', r⟩

/-- a comprehension's source that is a text -/
def SrcS (prog : Program) (w : World) (A : Around) (h₀ : Heap) (L : Addr) (m : Str → Option Value) (env : Env) (elt : Expr) (x : Str) (scope : Scope) (cl : List (Str × Addr)) (Fin : Shared → List Value → List (Addr × Obj) → Prop) (xv : Value) (s₁ : Shared) : Prop :=
  ∃ xt t news, xv = .str xt t ∧ A.handled = none ∧ Fr h₀ L s₁.heap m ∧ News h₀ L s₁.heap news ∧ xt.cps.size ≤ sizeLine ∧
    ∀ s₂ : Shared, (∃ h, s₂ = { s₁ with heap := h }) → CompRest prog w A h₀ L m env elt x scope cl s₂ (fun _ => True) (SignAt xt) (Fin s₂) xt.cps.size 0 [] news

theorem ListComp_S {elt iter : Expr} {x : Str} {px : Pos} {scope : Scope} {cl : List (Str × Addr)} {pos : Pos} {Q : Value → Shared → Prop} (_F₀ : Fr h₀ L s.heap m)
    (hclos : closureFor scope env = pure cl) (hcell : ∀ y ∈ scope.names, y.2 ≠ .cell) (hkind : scope.kind = .function)
    (hnames : ∀ y ∈ scope.names, y.2 = .local → scope.names.lookup y.1 = some .local) (hx : scope.names.lookup x = some .local)
    (h : wpAny (model prog w) A (eval iter env) (SrcS prog w A h₀ L m env elt x scope cl (fun s₂ => FinE h₀ L m s₂ Q)) E s)
    (hs : ∀ x, foldedSetIterable iter env x = pure x := by intro _; rfl) :
    wpAny (model prog w) A (eval (.ListComp elt [⟨.Name x px, iter, [], 0⟩] scope pos) env) Q E s := by
  rw [eval_ListComp]
  refine wpAny_comprehension_free (use := none) rfl hs hclos hkind hnames (wpAny_mono h (fun xv s₁ h₁ => ?_) fun _ _ e => e)
  obtain ⟨xt, t, news, rfl, hh, F, N, hsz, R⟩ := h₁
  have fin : ∀ o : Obj, ∀ D C h tk m' ys news', Fr h₀ L h m → News h₀ L h ((D, lst ys) :: news') → Off1 D news' → h.Ns C m' → h₀.get? C = none → h₀.get? D = none → C ≠ L → D ≠ L → C ≠ D → (∀ p ∈ news', p.1 ≠ C) → FinE h₀ L m { s₁ with heap := s₁.heap.push o } Q ys news' →
      compPost (model prog w) A E none Q (.ref D) C (.ok .next) { s₁ with heap := h, toks := tk } := by
    intro o D C h tk m' ys news' F' N' o1 hn hC₀ hD₀ hCL hDL hCD offC fin
    refine ⟨m', hn, fun h'' hs'' => fin D h'' tk (F'.change hs'' hCL hC₀) (fun p hp => ?_) o1⟩
    refine ⟨hs''.extBut _ _ ?_ (N' p hp).1, (N' p hp).2⟩
    rcases List.mem_cons.mp hp with rfl | hp
    · exact Ne.symm hCD
    · exact offC p hp
  have hI : ∀ b ∈ [s₁.heap.objs.size], ∀ o : Obj, b < (s₁.heap.push o).objs.size := fun b hb o => by
    rw [List.mem_singleton.mp hb, Heap.size_push]; exact Nat.lt_succ_self _
  cases ha : xt.cps.all (· < 128)
  · refine wpAny_pyIter_wide ha ?_
    exact block_U (Walks.strWide hh s₁.heap.objs.size xt t) hsz (fun i h st => by obtain ⟨o, e, _⟩ := st; exact ⟨o, e⟩) striter_st hcell hkind hx ⟨_, Heap.get?_push_size _ rfl, rfl, rfl⟩ (fun b hb => hI b hb _)
      (F.keeps fun _ _ e => Heap.get?_push_of_some _ e) (N.grown fun _ _ e => Heap.get?_push_of_some _ e) (Nat.ne_of_lt F.ns.lt) (next_is_new F) (fun p hp => Nat.ne_of_lt (Heap.lt_size (N p hp).1)) trivial (R _ ⟨_, rfl⟩) (fin _)
  · refine wpAny_pyIter_ascii ha ?_
    exact block_U (Walks.strAscii hh s₁.heap.objs.size xt t) hsz (fun i h st => by obtain ⟨o, e, _⟩ := st; exact ⟨o, e⟩) striter_st hcell hkind hx ⟨_, Heap.get?_push_size _ rfl, rfl, rfl⟩ (fun b hb => hI b hb _)
      (F.keeps fun _ _ e => Heap.get?_push_of_some _ e) (N.grown fun _ _ e => Heap.get?_push_of_some _ e) (Nat.ne_of_lt F.ns.lt) (next_is_new F) (fun p hp => Nat.ne_of_lt (Heap.lt_size (N p hp).1)) trivial (R _ ⟨_, rfl⟩) (fin _)

theorem Assign_ListComp_S {elt iter : Expr} {x y : Str} {px py : Pos} {scope : Scope} {cl : List (Str × Addr)} {pos spos : Pos} {Q : Flow → Shared → Prop} (_F₀ : Fr h₀ L s.heap m) (hLe : env.locals = L)
    (hsw : swapsWith (.ListComp elt [⟨.Name x px, iter, [], 0⟩] scope pos) (some (.Name y py)) spos.line env = pure true)
    (hclos : closureFor scope env = pure cl) (hcell : ∀ z ∈ scope.names, z.2 ≠ .cell) (hkind : scope.kind = .function)
    (hnames : ∀ z ∈ scope.names, z.2 = .local → scope.names.lookup z.1 = some .local) (hx : scope.names.lookup x = some .local)
    (hy : env.kindOf y = some .local) (hp : (env.scope.kind == .class || (env.scope.kind == .module && env.locals != env.globals)) = false)
    (h : wpAny (model prog w) A (eval iter env) (SrcS prog w A h₀ L m env elt x scope cl (fun s₂ => FinA h₀ L m s₂ y Q)) E s)
    (hs : ∀ x, foldedSetIterable iter env x = pure x := by intro _; rfl) :
    wpAny (model prog w) A (exec (.Assign [.Name y py] (.ListComp elt [⟨.Name x px, iter, [], 0⟩] scope pos) spos) env) Q E s := by
  subst hLe
  rw [exec_Assign_Name_used _ _ _ _ hsw]
  refine wpAny_bind (wpAny_standAt (wpAny_bind ?_))
  show wpAny _ A (do let _ ← comprehension (.ListComp elt [⟨.Name x px, iter, [], 0⟩] scope pos) scope env _ (newList []) false (eval iter env) (some (assign (.Name y py) env))) _ _ s
  refine wpAny_bind (wpAny_mono (wpAny_comprehension_free (use := some (assign (.Name y py) env)) (Q := fun _ s' => Q .next s') rfl hs hclos hkind hnames
    (wpAny_mono h (fun xv s₁ h₁ => ?_) fun _ _ e => e)) (fun _ s' hq => wpAny_pure (wpAny_pure hq)) fun _ _ e => e)
  obtain ⟨xt, t, news, rfl, hh, F, N, hsz, R⟩ := h₁
  have fin : ∀ o : Obj, ∀ D C h tk m' ys news', Fr h₀ env.locals h m → News h₀ env.locals h ((D, lst ys) :: news') → Off1 D news' → h.Ns C m' → h₀.get? C = none → h₀.get? D = none → C ≠ env.locals → D ≠ env.locals → C ≠ D → (∀ p ∈ news', p.1 ≠ C) → FinA h₀ env.locals m { s₁ with heap := s₁.heap.push o } y Q ys news' →
      compPost (model prog w) A E (some (assign (.Name y py) env)) (fun _ s' => Q .next s') (.ref D) C (.ok .next) { s₁ with heap := h, toks := tk } := by
    intro o D C h' tk m' ys news' F' N' o1 hn hC₀ hD₀ hCL hDL hCD offC fin
    show wpAny _ A (assign (.Name y py) env (.ref D)) _ _ _
    refine wpAny_assign_Name (wpAny_storeName_local hy F'.ns (fun h₂ hn₂ hs₂ => ?_) hp)
    have hL₀ : h₀.get? env.locals = none := Heap.get?_none_of_le F'.above
    have F₂ : Fr h₀ env.locals h₂ (fun z => if z = y then some (.ref D) else m z) := ⟨hn₂, fun b o e => hs₂.extBut b o (fun q => by rw [q, hL₀] at e; cases e) (F'.keep b o e), F'.above⟩
    refine ⟨m', hn.sameBut hs₂ hCL, fun h'' hs'' => fin D h'' _ (F₂.change hs'' hCL hC₀) (fun p hp => ?_) o1⟩
    have z : h₂.get? p.1 = some p.2 := hs₂.extBut _ _ (N' p hp).2.1 (N' p hp).1
    refine ⟨hs''.extBut _ _ ?_ z, (N' p hp).2⟩
    rcases List.mem_cons.mp hp with rfl | hp
    · exact Ne.symm hCD
    · exact offC p hp
  have hI : ∀ b ∈ [s₁.heap.objs.size], ∀ o : Obj, b < (s₁.heap.push o).objs.size := fun b hb o => by
    rw [List.mem_singleton.mp hb, Heap.size_push]; exact Nat.lt_succ_self _
  cases ha : xt.cps.all (· < 128)
  · refine wpAny_pyIter_wide ha ?_
    exact block_U (Walks.strWide hh s₁.heap.objs.size xt t) hsz (fun i h st => by obtain ⟨o, e, _⟩ := st; exact ⟨o, e⟩) striter_st hcell hkind hx ⟨_, Heap.get?_push_size _ rfl, rfl, rfl⟩ (fun b hb => hI b hb _)
      (F.keeps fun _ _ e => Heap.get?_push_of_some _ e) (N.grown fun _ _ e => Heap.get?_push_of_some _ e) (Nat.ne_of_lt F.ns.lt) (next_is_new F) (fun p hp => Nat.ne_of_lt (Heap.lt_size (N p hp).1)) trivial (R _ ⟨_, rfl⟩) (fin _)
  · refine wpAny_pyIter_ascii ha ?_
    exact block_U (Walks.strAscii hh s₁.heap.objs.size xt t) hsz (fun i h st => by obtain ⟨o, e, _⟩ := st; exact ⟨o, e⟩) striter_st hcell hkind hx ⟨_, Heap.get?_push_size _ rfl, rfl, rfl⟩ (fun b hb => hI b hb _)
      (F.keeps fun _ _ e => Heap.get?_push_of_some _ e) (N.grown fun _ _ e => Heap.get?_push_of_some _ e) (Nat.ne_of_lt F.ns.lt) (next_is_new F) (fun p hp => Nat.ne_of_lt (Heap.lt_size (N p hp).1)) trivial (R _ ⟨_, rfl⟩) (fin _)

/-- the turns over a text's signs, each giving an int -/
theorem cs_rest {elt : Expr} {x : Str} {scope : Scope} {cl : List (Str × Addr)} {xt : Str} {Fin : List Value → List (Addr × Obj) → Prop} {news : Led} (g : Nat → Int)
    (turn : ∀ k t I oI C oC D m₂ ys h tk (E' : Value → Shared → Prop), k ∈ xt.cps.toList → NsObj oC m₂ → m₂ x = some (.str ⟨#[k]⟩ t) → Fr h₀ L h m → News h₀ L h ((I, oI) :: (C, oC) :: (D, lst ys) :: news) → Off3 I C D news → ((@Ne Nat I C) ∧ (@Ne Nat I D) ∧ (@Ne Nat C D)) →
      wpAny (model prog w) A (eval elt (compEnvC scope cl C env)) (CompEnd h₀ L m { s with heap := h, toks := tk } I oI C oC D (lst ys) (fun _ => True) (fun y news' => KCfEl news (g k) y news')) E' { s with heap := h, toks := tk })
    (fin : ∀ ys, IntsAre ys (xt.cps.toList.map g) → Fin ys news) : CompRest prog w A h₀ L m env elt x scope cl s (fun _ => True) (SignAt xt) Fin xt.cps.size 0 [] news := by
  have key : ∀ (j i : Nat) (ys : List Value), i + j = xt.cps.size → IntsAre ys ((xt.cps.toList.take i).map g) → CompRest prog w A h₀ L m env elt x scope cl s (fun _ => True) (SignAt xt) Fin j i ys news := by
    intro j
    induction j with
    | zero =>
      intro i ys hi hy
      have e : i = xt.cps.toList.length := by simp; omega
      subst e
      rw [List.take_length] at hy
      exact CompRest.zero (fin ys hy)
    | succ j ih =>
      intro i ys hi hy
      refine CompRest.succ ?_
      intro v I oI C oC D m₂ h tk E' hv hC hx F N off ne
      obtain ⟨k, t, hk, hv'⟩ := hv
      have hk' : xt.cps.toList[i]? = some k := by simpa using hk
      rw [hv'] at hx
      refine wpAny_mono (turn k t I oI C oC D m₂ ys h tk E' (List.mem_of_getElem? hk') hC hx F N off ne) (fun y s₂ hq => ?_) fun _ _ e => e
      obtain ⟨h', tk', nw, e, F', N', off', hS, hn, t', hy'⟩ := hq
      rw [hn] at N' off'
      refine ⟨h', tk', news, e, F', N', off', hS, ?_⟩
      rw [hy']
      refine ih (i + 1) _ (by omega) ?_
      rw [List.take_add_one, hk']
      simpa using IntsAre.append hy (.cons (g k) t' .nil)
  exact key xt.cps.size 0 [] (by omega) (by simp only [List.take_zero, List.map_nil]; exact .nil)

theorem ce_int {I C D : Addr} {s₁ : Shared} {oI oC oD : Obj} {S : Led → Prop} {news all : Led} {h' : Heap} {tk : Nat} {r r' : Int} {t : Tok} {y : Value}
    (F : Fr h₀ L h' m) (N : News h₀ L h' all) (sub : ∀ p ∈ (I, oI) :: (C, oC) :: (D, oD) :: news, p ∈ all) (off : Off3 I C D news) (hS : S news) (hy : y = .int r' t) (e : r' = r) :
    CompEnd h₀ L m s₁ I oI C oC D oD S (fun y news' => KCfEl news r y news') y { s₁ with heap := h', toks := tk } :=
  CompEnd.intro F N news sub off hS ⟨rfl, t, by rw [hy, e]⟩
end
end Mine
end
/-! part C1 -/
section
open PySem PySem.W PyProof.Rows
set_option Elab.async false
set_option maxRecDepth 100000
set_option maxHeartbeats 8000000
namespace Mine
def lowI (code : Int) : Int := if 65 ≤ code ∧ code ≤ 90 then code + 32 else code
def EXPL : List Int := [1, 2, 4, 8, 16, 9, 18, 13, 26, 29, 19, 15, 30, 21, 3, 6, 12, 24, 25, 27, 31, 23, 7, 14, 28, 17, 11, 22, 5, 10, 20]
def LOGL : List Int := [0, 0, 1, 14, 2, 28, 15, 22, 3, 5, 29, 26, 16, 7, 23, 11, 4, 25, 6, 10, 30, 13, 27, 21, 17, 18, 8, 19, 24, 9, 12, 20]
def timesI (x y : Int) : Int := if x = 0 ∨ y = 0 then 0 else EXPL.getD ((LOGL.getD x.toNat 0 + LOGL.getD y.toNat 0).fmod 31).toNat 0

theorem low_c {w : World} {mean : ExcName → Option Value} {mg mb : Str → Option Value} {news : Led} {x : Int} {t : Tok} :
    Con 0 w mean mg mb 66 [.int x t] news (RetInt news (lowI x)) := by
  unfold Con
  k_fill
  intro dp un gd cn cs a ccd cl outer A₀ base h₀ L m s Q E B F X N T hk hd hu hret
  w_top off
  w_strict (
    refine wpAny_call ?_
    k_dflt cell_enter
    k_steps
    all_goals
      refine ret_int hret ?_ (by k_asm) (by k_asm) (fun p hp => hp)
      unfold lowI
      simp only [decide_eq_true_eq, decide_eq_false_iff_not, Bool.not_eq_true] at *
      first | rw [if_pos ⟨by omega, by omega⟩] | rw [if_neg (by omega)])

theorem times_c {w : World} {mean : ExcName → Option Value} {mg mb : Str → Option Value} {news : Led} {x y : Int} {t u : Tok} (hx : 0 ≤ x ∧ x < 32) (hy : 0 ≤ y ∧ y < 32) :
    Con 0 w mean mg mb 59 [.int x t, .int y u] news (RetInt news (timesI x y)) := by
  unfold Con
  k_fill
  intro dp un gd cn cs a ccd cl outer A₀ base h₀ L m s Q E B F X N T hk hd hu hret
  w_top off
  w_strict (
    refine wpAny_call ?_
    k_dflt cell_enter
    k_steps
    all_goals
      refine ret_int hret ?_ (by k_asm) (by k_asm) (fun p hp => hp)
      unfold timesI
      first
      | exact (if_pos (.inl (by assumption))).symm
      | exact (if_pos (.inr (by assumption))).symm
      | exact (if_neg (fun q => q.elim (by assumption) (by assumption))).symm)
end Mine
end
/-! part C2 -/
section
-- the walk keeps its lines by their number alone: so the numbers of two parts that stand together must differ
local macro_rules | `(tactic| walk_at "pad 0") => `(tactic| fail)
local macro_rules | `(tactic| walk_at "pad 1") => `(tactic| fail)
local macro_rules | `(tactic| walk_at "pad 2") => `(tactic| fail)
local macro_rules | `(tactic| walk_at "pad 3") => `(tactic| fail)
local macro_rules | `(tactic| walk_at "pad 4") => `(tactic| fail)
local macro_rules | `(tactic| walk_at "pad 5") => `(tactic| fail)
local macro_rules | `(tactic| walk_at "pad 6") => `(tactic| fail)
local macro_rules | `(tactic| walk_at "pad 7") => `(tactic| fail)
local macro_rules | `(tactic| walk_at "pad 8") => `(tactic| fail)
local macro_rules | `(tactic| walk_at "pad 9") => `(tactic| fail)
local macro_rules | `(tactic| walk_at "pad 10") => `(tactic| fail)
local macro_rules | `(tactic| walk_at "pad 11") => `(tactic| fail)
local macro_rules | `(tactic| walk_at "pad 12") => `(tactic| fail)
local macro_rules | `(tactic| walk_at "pad 13") => `(tactic| fail)
local macro_rules | `(tactic| walk_at "pad 14") => `(tactic| fail)
local macro_rules | `(tactic| walk_at "pad 15") => `(tactic| fail)
local macro_rules | `(tactic| walk_at "pad 16") => `(tactic| fail)
local macro_rules | `(tactic| walk_at "pad 17") => `(tactic| fail)
local macro_rules | `(tactic| walk_at "pad 18") => `(tactic| fail)
local macro_rules | `(tactic| walk_at "pad 19") => `(tactic| fail)
local macro_rules | `(tactic| walk_at "pad 20") => `(tactic| fail)
local macro_rules | `(tactic| walk_at "pad 21") => `(tactic| fail)
local macro_rules | `(tactic| walk_at "pad 22") => `(tactic| fail)
local macro_rules | `(tactic| walk_at "pad 23") => `(tactic| fail)
local macro_rules | `(tactic| walk_at "pad 24") => `(tactic| fail)
local macro_rules | `(tactic| walk_at "pad 25") => `(tactic| fail)
local macro_rules | `(tactic| walk_at "pad 26") => `(tactic| fail)
local macro_rules | `(tactic| walk_at "pad 27") => `(tactic| fail)
local macro_rules | `(tactic| walk_at "pad 28") => `(tactic| fail)
local macro_rules | `(tactic| walk_at "pad 29") => `(tactic| fail)
open PySem PySem.W PyProof.Rows
set_option Elab.async false
set_option maxRecDepth 100000
set_option maxHeartbeats 8000000
namespace Mine
def gens : List Int := [996825010, 642813549, 513874426, 1027748829, 705979059]
def polyIn (top z : Int) (pre : List Int) : Int := pre.foldl (fun z i => if Builtin.bitAnd (top.fdiv (2 ^ i.toNat)) 1 = 0 then Builtin.bitXor z 0 else Builtin.bitXor z (gens.getD i.toNat 0)) z
def polyTurn (c v : Int) : Int := polyIn (c.fdiv (2 ^ 25)) (Builtin.bitXor (Builtin.bitAnd c 33554431 * 2 ^ 5) v) (rangeKs 0 5)
def polyI (vs : List Int) : Int := vs.foldl polyTurn 1
theorem poly_snoc {top z c : Int} {pre : List Int} {k : Int} (h : z = polyIn top c pre) : polyIn top c (pre ++ [k]) = if Builtin.bitAnd (top.fdiv (2 ^ k.toNat)) 1 = 0 then Builtin.bitXor z 0 else Builtin.bitXor z (gens.getD k.toNat 0) := by
  subst h
  unfold polyIn
  rw [List.foldl_append, List.foldl_cons, List.foldl_nil]
theorem and_small (c : Int) : (Builtin.bitAnd c 33554431).natAbs < 2 ^ 64 := by
  have := bitAnd_range c (y := 33554431) (by decide)
  omega

local macro_rules | `(tactic| walk_at "binaryOp LShift int int") => `(tactic| ((with_reducible refine lshift_int_small ?kb1 ?kb2 ?kb3 ?_); (case kb1 => decide); (case kb2 => decide); (case kb3 => exact and_small _)))

local macro_rules | `(tactic| walk_at "exec For Name Name cons nil") => `(tactic| (k_here; refine Halt.mk ?_))
local macro_rules | `(tactic| walk_at "exec For Name Call cons nil") => `(tactic| (k_here; refine Halt.mk ?_))
local macro_rules | `(tactic| walk_at "pyIter ref") => `(tactic| (k_here; refine Halt.mk ?_))

theorem poly_c {w : World} {mean : ExcName → Option Value} {mg mb : Str → Option Value} {news : Led} {l : Addr} {ws : List Value} {n : Nat} {vs : List Int} (hl : (l, W.listOf ws.toArray n) ∈ news) (hi : IntsAre ws vs):
    Con 0 w mean mg mb 21 [.ref l] news (RetInt news (polyI vs)) := by
  unfold Con
  k_fill
  intro dp un gd cn cs a ccd cl outer A₀ base h₀ L m s Q E B F X N T hk hd hu hret
  w_top off
  w_strict (
    refine wpAny_call ?_
    k_dflt cell_enter
    k_steps
    refine Halt.go ?_
    rename Fr _ _ _ _ => F1
    with_unfolding_all refine' For_invVF F1 ?k1 ?k2 ?_
    case k1 => exact rfl
    case k2 => exact rfl
    k_steps
    refine Halt.go ?_
    rename News _ _ _ _ => N1
    refine' loop1 (c₀ := 1) (vs := ws) (ns := vs) (nn := n) (Str.ofString "chk") [Str.ofString "top", Str.ofString "i"] (fun pre c => c = polyI pre) ?hh ?hl ?hi ?F ?N ?hk ?hp ?turn ?done
    case F => exact F1
    case N => exact N1
    case hh => exact rfl
    case hl => exact List.Mem.tail _ hl
    case hi => exact hi
    case hk => exact rfl
    case hp => exact rfl
    case turn =>
      intro c tc pre post v t u h tk own hns hmem hP F2 N2
      clear F1 N1
      k_steps
      refine Halt.go ?_
      rename Fr _ _ _ _ => F3
      with_unfolding_all refine' For_invVF F3 ?k1 ?k2 ?_
      case k1 => exact rfl
      case k2 => exact rfl
      k_steps
      refine Halt.go ?_
      rename News _ _ _ _ => N4
      rename Fr _ _ _ _ => F4
      rename IsRange _ _ _ _ _ _ _ _ => R4
      refine' loop1_range (n := 5) (Str.ofString "chk") [] (fun pre z => z = polyIn (c.fdiv (2 ^ 25)) (Builtin.bitXor (Builtin.bitAnd c 33554431 * 2 ^ 5) v) pre) ?hh2 ?hr2 ?hsm2 ?hn2 ?F2 ?N2 ?hk2 ?hp2 ?turn2 ?done2
      case hr2 => exact R4
      case F2 => exact F4
      case N2 => exact N4
      case hh2 => exact rfl
      case hsm2 => decide
      case hn2 => exact rfl
      case hk2 => exact rfl
      case hp2 => exact rfl
      case turn2 =>
        intro z tz pre k t u h tk own hk5 hlt hP F5 N5
        clear F4 N4 R4
        k_steps
        all_goals
          refine l1_end (by k_asm) (by k_asm) (fun p hp => ?_) (fun p hp => ?_) rfl ?_ ?_
          · exact List.mem_append.mpr (.inl hp)
          · exact List.mem_append.mpr (.inr hp)
          · intro z h1 h2 h3
            simp only [kstB, h1, h2, if_false, List.contains_nil, Bool.false_eq_true]
          · refine Eq.trans ?_ (poly_snoc hP).symm
            first | rw [if_pos (by assumption)] | (rw [if_neg (by assumption)]; rfl)
      case done2 =>
        intro z tz u h tk hP F5 N5
        clear F4 N4 R4
        k_steps
        refine l1_end (by k_asm) (by k_asm) (fun p hp => ?_) (fun p hp => ?_) rfl ?_ ?_
        · exact List.mem_append.mpr (.inl hp)
        · exact List.mem_append.mpr (.inr hp)
        · intro z h1 h2 h3
          simp only [List.contains_cons, List.contains_nil, Bool.or_false, Bool.or_eq_false_iff, beq_eq_false_iff_ne] at h3
          have h3' : [Str.ofString "top", Str.ofString "i"].contains z = false := by simp [h3]
          simp only [kstB, h1, h2, h3, h3', if_false, List.contains_nil, Bool.false_eq_true]
        · refine Eq.trans hP ?_
          unfold polyI
          rw [List.foldl_append, List.foldl_cons, List.foldl_nil]
          subst c
          rfl
    case done =>
      intro c tc u h tk hP F2 N2
      clear F1 N1
      k_steps
      refine ret_int hret hP (by k_asm) (by k_asm) (fun p hp => by first | exact hp | exact List.Mem.tail _ hp))
end Mine
end
/-! part C3 -/
section
open PySem PySem.W PyProof.Rows
set_option Elab.async false
set_option maxRecDepth 100000
set_option maxHeartbeats 8000000
namespace Mine
def expandI (f : Str) : List Int := f.cps.toList.map (fun c => ((c : Nat) : Int).fdiv (2 ^ Int.toNat 5)) ++ [0] ++ f.cps.toList.map (fun c => Builtin.bitAnd ((c : Nat) : Int) 31)
local macro_rules | `(tactic| walk_at "eval ListComp") => `(tactic| (k_here; refine Halt.mk ?_))

theorem expand_c {w : World} {mean : ExcName → Option Value} {mg mb : Str → Option Value} {news : Led} {f : Str} {t : Tok} (hf : f.length ≤ 6) :
    Con 0 w mean mg mb 26 [.str f t] news (RetInts news (expandI f)) := by
  unfold Con
  k_fill
  intro dp un gd cn cs a ccd cl outer A₀ base h₀ L m s Q E B F X N T hk hd hu hret
  w_top off
  w_strict (
    refine wpAny_call ?_
    k_dflt cell_enter
    k_steps
    refine Halt.go ?_
    rename Fr _ _ _ _ => F1
    refine' ListComp_S F1 ?c1 ?c2 ?c3 ?c4 ?c5 ?_
    case c1 => with_unfolding_all rfl
    case c2 => decide
    case c3 => rfl
    case c4 => decide
    case c5 => rfl
    k_steps
    rename News _ _ _ _ => N1
    refine ⟨f, t, news, rfl, rfl, F1, N1, ?_, fun s₂ hs₂ => ?_⟩
    · rw [PySem.sizeLine_eq]; show f.length ≤ _; omega
    obtain ⟨g, rfl⟩ := hs₂
    refine cs_rest (fun c => ((c : Nat) : Int).fdiv (2 ^ Int.toNat 5)) ?_ ?_
    · intro k t I oI C oC D m₂ ys h tk E' hk hC hx F2 N2 off ne
      clear F1 N1
      k_steps
      all_goals exact ⟨rfl, _, rfl⟩
    · intro ys hy
      have hyl2 := hy.length
      have hyl : ys.length = f.length := by rw [hy.length, List.length_map]; rfl
      k_steps
      refine Halt.go ?_
      rename Fr _ _ _ _ => F3
      refine' ListComp_S F3 ?d1 ?d2 ?d3 ?d4 ?d5 ?_
      case d1 => with_unfolding_all rfl
      case d2 => decide
      case d3 => rfl
      case d4 => decide
      case d5 => rfl
      k_steps
      rename News _ _ _ _ => N3
      refine ⟨f, t, _, rfl, rfl, F3, N3, ?_, fun s₂ hs₂ => ?_⟩
      · rw [PySem.sizeLine_eq]; show f.length ≤ _; omega
      obtain ⟨g, rfl⟩ := hs₂
      refine cs_rest (fun c => Builtin.bitAnd ((c : Nat) : Int) 31) ?_ ?_
      · intro k t I oI C oC D m₂ ys h tk E' hk hC hx F2 N2 off ne
        clear F3 N3
        k_steps
        all_goals exact ⟨rfl, _, rfl⟩
      · intro zs hz
        have hzl2 := hz.length
        have hzl : zs.length = f.length := by rw [hz.length, List.length_map]; rfl
        k_steps
        rename (_ ∧ _) => l9
        exact ret_ints hret (by assumption) rfl (by k_asm) (by k_asm) (by k_mem) (off1_lt l9.2.2.2.2) (fun p hp => by first | exact hp | (repeat (first | exact hp | refine List.mem_cons_of_mem _ ?_))))
end Mine
end
/-! part C4 -/
section
-- the walk keeps its lines by their number alone: so the numbers of two parts that stand together must differ
local macro_rules | `(tactic| walk_at "pad 0") => `(tactic| fail)
local macro_rules | `(tactic| walk_at "pad 1") => `(tactic| fail)
local macro_rules | `(tactic| walk_at "pad 2") => `(tactic| fail)
local macro_rules | `(tactic| walk_at "pad 3") => `(tactic| fail)
local macro_rules | `(tactic| walk_at "pad 4") => `(tactic| fail)
local macro_rules | `(tactic| walk_at "pad 5") => `(tactic| fail)
local macro_rules | `(tactic| walk_at "pad 6") => `(tactic| fail)
local macro_rules | `(tactic| walk_at "pad 7") => `(tactic| fail)
local macro_rules | `(tactic| walk_at "pad 8") => `(tactic| fail)
local macro_rules | `(tactic| walk_at "pad 9") => `(tactic| fail)
local macro_rules | `(tactic| walk_at "pad 10") => `(tactic| fail)
local macro_rules | `(tactic| walk_at "pad 11") => `(tactic| fail)
local macro_rules | `(tactic| walk_at "pad 12") => `(tactic| fail)
local macro_rules | `(tactic| walk_at "pad 13") => `(tactic| fail)
local macro_rules | `(tactic| walk_at "pad 14") => `(tactic| fail)
local macro_rules | `(tactic| walk_at "pad 15") => `(tactic| fail)
local macro_rules | `(tactic| walk_at "pad 16") => `(tactic| fail)
local macro_rules | `(tactic| walk_at "pad 17") => `(tactic| fail)
local macro_rules | `(tactic| walk_at "pad 18") => `(tactic| fail)
local macro_rules | `(tactic| walk_at "pad 19") => `(tactic| fail)
local macro_rules | `(tactic| walk_at "pad 20") => `(tactic| fail)
local macro_rules | `(tactic| walk_at "pad 21") => `(tactic| fail)
local macro_rules | `(tactic| walk_at "pad 22") => `(tactic| fail)
local macro_rules | `(tactic| walk_at "pad 23") => `(tactic| fail)
local macro_rules | `(tactic| walk_at "pad 24") => `(tactic| fail)
local macro_rules | `(tactic| walk_at "pad 25") => `(tactic| fail)
local macro_rules | `(tactic| walk_at "pad 26") => `(tactic| fail)
local macro_rules | `(tactic| walk_at "pad 27") => `(tactic| fail)
local macro_rules | `(tactic| walk_at "pad 28") => `(tactic| fail)
local macro_rules | `(tactic| walk_at "pad 29") => `(tactic| fail)
open PySem PySem.W PyProof.Rows
set_option Elab.async false
set_option maxRecDepth 100000
set_option maxHeartbeats 8000000
set_option linter.unusedSimpArgs false
set_option linter.unusedVariables false
namespace Mine
theorem len_expand (f : Str) : (expandI f).length = 2 * f.length + 1 := by
  unfold expandI
  simp only [List.length_append, List.length_map, List.length_cons, List.length_nil]
  show f.cps.toList.length + (0 + 1) + f.cps.toList.length = 2 * f.cps.size + 1
  rw [Array.length_toList]; omega

local macro_rules | `(tactic| k_mem) => `(tactic| kcf_m)
-- a list of the ledger; a length; a list's copy; two lists joined
local macro_rules | `(tactic| is_list) => `(tactic| exact News.isList (by k_asm) (by k_mem))
local macro_rules | `(tactic| ktr_unf) => `(tactic| ((simp only [sizeLine_eq, List.size_toArray, List.length_append, List.length_cons, List.length_nil, List.length_map, len_expand]); omega))
local macro_rules | `(tactic| walk_at "call type:list") => `(tactic| (k_here; (with_reducible show wpAny _ _ (call (Value.type "list") [Value.ref _]) _ _ _); k_dflt (refine' list_copyK ?k1 ?k2 ?k3 ?_ ?z; (case k1 => k_asm); (case k2 => k_asm); (case k3 => is_list); (case z => ktr_unf); k_whole); intro D' c' h' F' N' l1; (try k_lt l1)))
local macro_rules | `(tactic| walk_at "binaryOp Add ref ref") => `(tactic| (k_here; (with_reducible show wpAny _ _ (binaryOp _ (Value.ref _) (Value.ref _)) _ _ _); k_dflt (refine' kmk_add_ints ?F ?N ?a ?b ?i ?j ?_ ?z; (case F => k_asm); (case N => k_asm); (case a => is_list); (case b => is_list); (case i => l_ints); (case j => l_ints); (case z => ktr_unf)); intro D' ws' h' F' N' l1 hI'; (try k_lt l1); (have hL' := IntsAre.length hI'); (try simp only [List.length_append, List.length_cons, List.length_nil, List.length_map, len_expand] at hL')))
-- the calls of what is shown above
local macro_rules | `(tactic| walk_at "call ref") => `(tactic| (k_here; k_dflt (refine' Con.use (poly_c ?hl ?hi) ?cuB ?cuF ?cuX ?cuN ?cuT ?cuk ?cud ?cuu ?_; (case cuF => k_asm); (case cuN => k_asm); (case hl => k_mem); (case hi => l_ints); (case cuB => k_asm); (case cuX => k_asm); (case cuT => k_asm); (case cuk => first | exact rfl | assumption); (case cud => ktr_room); (case cuu => ktr_units); intro t9 h9 tk9 F9 N9; (try dsimp only))))
local macro_rules | `(tactic| walk_at "call ref") => `(tactic| (k_here; k_dflt (refine' Con.use (expand_c ?hl) ?cuB ?cuF ?cuX ?cuN ?cuT ?cuk ?cud ?cuu ?_; (case cuF => k_asm); (case cuN => k_asm); (case hl => assumption); (case cuB => k_asm); (case cuX => k_asm); (case cuT => k_asm); (case cuk => first | exact rfl | assumption); (case cud => ktr_room); (case cuu => ktr_units); intro r9 ws9 n9 h9 tk9 I9 l9 F9 N9; (try simp only [LCg.Off1, and_true] at l9); (have hL' := IntsAre.length I9); (try simp only [len_expand] at hL'); (try dsimp only))))

theorem verify_c {w : World} {mean : ExcName → Option Value} {mg mb : Str → Option Value} {news : Led} {f : Str} {t : Tok} {l : Addr} {ws : List Value} {n : Nat} {vs : List Int} (hf : f.length ≤ 6) (hl : (l, W.listOf ws.toArray n) ∈ news) (hi : IntsAre ws vs) (hs : vs.length ≤ 60) :
    Con 1 w mean mg mb 33 [.str f t, .ref l] news (RetBool news (polyI (expandI f ++ vs) == 1)) := by
  unfold Con
  k_fill
  intro dp un gd cn cs a ccd cl outer A₀ base h₀ L m s Q E B F X N T hk hd hu hret
  w_top off
  w_strict (
    have hwl := hi.length
    refine wpAny_call ?_
    k_dflt cell_enter
    k_steps
    all_goals exact ret_bool hret rfl (by k_asm) (by k_asm) (fun p hp => by kcf_m))
end Mine
end
/-! part C5 -/
section
open PySem PySem.W PyProof.Rows
set_option Elab.async false
set_option maxRecDepth 100000
set_option maxHeartbeats 8000000
set_option linter.unusedSimpArgs false
set_option linter.unusedVariables false
set_option pp.deepTerms false
set_option pp.deepTerms.threshold 20
set_option pp.proofs false
namespace Mine
local macro_rules | `(tactic| k_mem) => `(tactic| kcf_m)
-- a list of the ledger; a length; a list's copy; two lists joined
local macro_rules | `(tactic| is_list) => `(tactic| exact News.isList (by k_asm) (by k_mem))
local macro_rules | `(tactic| ktr_unf) => `(tactic| ((simp only [sizeLine_eq, List.size_toArray, List.length_append, List.length_cons, List.length_nil, List.length_map, len_expand]); omega))
local macro_rules | `(tactic| walk_at "call type:list") => `(tactic| (k_here; (with_reducible show wpAny _ _ (call (Value.type "list") [Value.ref _]) _ _ _); k_dflt (refine' list_copyK ?k1 ?k2 ?k3 ?_ ?z; (case k1 => k_asm); (case k2 => k_asm); (case k3 => is_list); (case z => ktr_unf); k_whole); intro D' c' h' F' N' l1; (try k_lt l1)))
local macro_rules | `(tactic| walk_at "binaryOp Add ref ref") => `(tactic| (k_here; (with_reducible show wpAny _ _ (binaryOp _ (Value.ref _) (Value.ref _)) _ _ _); k_dflt (refine' kmk_add_ints ?F ?N ?a ?b ?i ?j ?_ ?z; (case F => k_asm); (case N => k_asm); (case a => is_list); (case b => is_list); (case i => l_ints); (case j => l_ints); (case z => ktr_unf)); intro D' ws' h' F' N' l1 hI'; (try k_lt l1); (have hL' := IntsAre.length hI'); (try simp only [List.length_append, List.length_cons, List.length_nil, List.length_map, len_expand] at hL')))
-- the calls of what is shown above
local macro_rules | `(tactic| walk_at "call ref") => `(tactic| (k_here; k_dflt (refine' Con.use (poly_c ?hl ?hi) ?cuB ?cuF ?cuX ?cuN ?cuT ?cuk ?cud ?cuu ?_; (case cuF => k_asm); (case cuN => k_asm); (case hl => k_mem); (case hi => l_ints); (case cuB => k_asm); (case cuX => k_asm); (case cuT => k_asm); (case cuk => first | exact rfl | assumption); (case cud => ktr_room); (case cuu => ktr_units); intro t9 h9 tk9 F9 N9; (try dsimp only))))
local macro_rules | `(tactic| walk_at "call ref") => `(tactic| (k_here; k_dflt (refine' Con.use (expand_c ?hl) ?cuB ?cuF ?cuX ?cuN ?cuT ?cuk ?cud ?cuu ?_; (case cuF => k_asm); (case cuN => k_asm); (case hl => assumption); (case cuB => k_asm); (case cuX => k_asm); (case cuT => k_asm); (case cuk => first | exact rfl | assumption); (case cud => ktr_room); (case cuu => ktr_units); intro r9 ws9 n9 h9 tk9 I9 l9 F9 N9; (try simp only [LCg.Off1, and_true] at l9); (have hL' := IntsAre.length I9); (try simp only [len_expand] at hL'); (try dsimp only))))


theorem all_ne_up {d : Addr} {l : Led} (h : AllLt d l) : ∀ p ∈ l, p.1 ≠ d + 1 := fun p hp => by
  have := allLt_mem h p hp
  exact Nat.ne_of_lt (Nat.lt_succ_of_lt this)
theorem all_ne_up' {d : Addr} {l : Led} (h : ∀ p ∈ l, p.1 < d) : ∀ p ∈ l, p.1 ≠ d + 1 := fun p hp => Nat.ne_of_lt (Nat.lt_succ_of_lt (h p hp))
local macro_rules | `(tactic| k_all) => `(tactic| first | exact all_ne_up (by assumption) | exact all_ne_up' (by assumption))
def createI (f : Str) (vs : List Int) : List Int := (rangeKs 0 6).map fun k => Builtin.bitAnd ((Builtin.bitXor (polyI (expandI f ++ vs ++ [0, 0, 0, 0, 0, 0])) 1).fdiv (2 ^ (5 * (5 - k)).toNat)) 31
theorem create_c {w : World} {mean : ExcName → Option Value} {mg mb : Str → Option Value} {news : Led} {f : Str} {t : Tok} {l : Addr} {ws : List Value} {n : Nat} {vs : List Int} (hf : f.length ≤ 6) (hl : (l, W.listOf ws.toArray n) ∈ news) (hi : IntsAre ws vs) (hs : vs.length ≤ 60) :
    Con 1 w mean mg mb 38 [.str f t, .ref l] news (RetInts news (createI f vs)) := by
  unfold Con
  k_fill
  intro dp un gd cn cs a ccd cl outer A₀ base h₀ L m s Q E B F X N T hk hd hu hret
  w_top off
  w_strict (
    have hwl := hi.length
    refine wpAny_call ?_
    k_dflt (refine' code_defC ?k1 ?k2 ?k3 ?k4 ?k5 ?kA ?kF ?kK ?k6 ?k7 ?k8 ?k9 ?kB ?kD ?_ ?c2 ?c3 ?c4; (case kA => exact rfl); (case kF => exact rfl); (case kK => assumption); (case k1 => k_asm); (case k2 => k_asm); (case k3 => k_asm); (case k4 => k_asm); (case k5 => k_asm); (case k6 => k_is); (case k7 => k_is); (case k8 => ktr_room); (case k9 => exact BindsTo.of_eq rfl); (case kB => exact rfl); (case kD => decide +kernel); (case c2 => exact rfl); (case c3 => exact rfl); (case c4 => exact rfl); k_whole; intro g' L' h' tk' cells' FG' F' N' Y' B' X' T' l1; (try k_lt l1); k_cells Y'; (try simp only [List.cons_append, List.nil_append] at N'); (try dsimp only); (try k_fold))
    k_steps
    rename (_ ∧ _) => o9
    refine ret_ints hret (by assumption) rfl (by k_asm) (by k_asm) (by kcf_m) o9.2.2.2.2.2.2 (fun p hp => by kcf_m))
end Mine
end
/-! part C6 -/
section
-- the walk keeps its lines by their number alone: so the numbers of two parts that stand together must differ
local macro_rules | `(tactic| walk_at "pad 0") => `(tactic| fail)
local macro_rules | `(tactic| walk_at "pad 1") => `(tactic| fail)
local macro_rules | `(tactic| walk_at "pad 2") => `(tactic| fail)
local macro_rules | `(tactic| walk_at "pad 3") => `(tactic| fail)
local macro_rules | `(tactic| walk_at "pad 4") => `(tactic| fail)
local macro_rules | `(tactic| walk_at "pad 5") => `(tactic| fail)
local macro_rules | `(tactic| walk_at "pad 6") => `(tactic| fail)
local macro_rules | `(tactic| walk_at "pad 7") => `(tactic| fail)
local macro_rules | `(tactic| walk_at "pad 8") => `(tactic| fail)
local macro_rules | `(tactic| walk_at "pad 9") => `(tactic| fail)
local macro_rules | `(tactic| walk_at "pad 10") => `(tactic| fail)
local macro_rules | `(tactic| walk_at "pad 11") => `(tactic| fail)
local macro_rules | `(tactic| walk_at "pad 12") => `(tactic| fail)
local macro_rules | `(tactic| walk_at "pad 13") => `(tactic| fail)
local macro_rules | `(tactic| walk_at "pad 14") => `(tactic| fail)
local macro_rules | `(tactic| walk_at "pad 15") => `(tactic| fail)
local macro_rules | `(tactic| walk_at "pad 16") => `(tactic| fail)
local macro_rules | `(tactic| walk_at "pad 17") => `(tactic| fail)
local macro_rules | `(tactic| walk_at "pad 18") => `(tactic| fail)
local macro_rules | `(tactic| walk_at "pad 19") => `(tactic| fail)
local macro_rules | `(tactic| walk_at "pad 20") => `(tactic| fail)
local macro_rules | `(tactic| walk_at "pad 21") => `(tactic| fail)
local macro_rules | `(tactic| walk_at "pad 22") => `(tactic| fail)
local macro_rules | `(tactic| walk_at "pad 23") => `(tactic| fail)
local macro_rules | `(tactic| walk_at "pad 24") => `(tactic| fail)
local macro_rules | `(tactic| walk_at "pad 25") => `(tactic| fail)
local macro_rules | `(tactic| walk_at "pad 26") => `(tactic| fail)
local macro_rules | `(tactic| walk_at "pad 27") => `(tactic| fail)
local macro_rules | `(tactic| walk_at "pad 28") => `(tactic| fail)
local macro_rules | `(tactic| walk_at "pad 29") => `(tactic| fail)
open PySem PySem.W PyProof.Rows
set_option Elab.async false
set_option maxRecDepth 100000
set_option maxHeartbeats 8000000
set_option linter.unusedSimpArgs false
set_option linter.unusedVariables false
set_option pp.deepTerms false
set_option pp.deepTerms.threshold 20
set_option pp.proofs false
namespace Mine
local macro_rules | `(tactic| k_mem) => `(tactic| kcf_m)
-- a list of the ledger; a length; a list's copy; two lists joined
local macro_rules | `(tactic| is_list) => `(tactic| exact News.isList (by k_asm) (by k_mem))
local macro_rules | `(tactic| ktr_unf) => `(tactic| ((simp only [sizeLine_eq, List.size_toArray, List.length_append, List.length_cons, List.length_nil, List.length_map, len_expand]); omega))
local macro_rules | `(tactic| walk_at "call type:list") => `(tactic| (k_here; (with_reducible show wpAny _ _ (call (Value.type "list") [Value.ref _]) _ _ _); k_dflt (refine' list_copyK ?k1 ?k2 ?k3 ?_ ?z; (case k1 => k_asm); (case k2 => k_asm); (case k3 => is_list); (case z => ktr_unf); k_whole); intro D' c' h' F' N' l1; (try k_lt l1)))
local macro_rules | `(tactic| walk_at "binaryOp Add ref ref") => `(tactic| (k_here; (with_reducible show wpAny _ _ (binaryOp _ (Value.ref _) (Value.ref _)) _ _ _); k_dflt (refine' kmk_add_ints ?F ?N ?a ?b ?i ?j ?_ ?z; (case F => k_asm); (case N => k_asm); (case a => is_list); (case b => is_list); (case i => l_ints); (case j => l_ints); (case z => ktr_unf)); intro D' ws' h' F' N' l1 hI'; (try k_lt l1); (have hL' := IntsAre.length hI'); (try simp only [List.length_append, List.length_cons, List.length_nil, List.length_map, len_expand] at hL')))
-- the calls of what is shown above
local macro_rules | `(tactic| walk_at "call ref") => `(tactic| (k_here; k_dflt (refine' Con.use (poly_c ?hl ?hi) ?cuB ?cuF ?cuX ?cuN ?cuT ?cuk ?cud ?cuu ?_; (case cuF => k_asm); (case cuN => k_asm); (case hl => k_mem); (case hi => l_ints); (case cuB => k_asm); (case cuX => k_asm); (case cuT => k_asm); (case cuk => first | exact rfl | assumption); (case cud => ktr_room); (case cuu => ktr_units); intro t9 h9 tk9 F9 N9; (try dsimp only))))
local macro_rules | `(tactic| walk_at "call ref") => `(tactic| (k_here; k_dflt (refine' Con.use (expand_c ?hl) ?cuB ?cuF ?cuX ?cuN ?cuT ?cuk ?cud ?cuu ?_; (case cuF => k_asm); (case cuN => k_asm); (case hl => assumption); (case cuB => k_asm); (case cuX => k_asm); (case cuT => k_asm); (case cuk => first | exact rfl | assumption); (case cud => ktr_room); (case cuu => ktr_units); intro r9 ws9 n9 h9 tk9 I9 l9 F9 N9; (try simp only [LCg.Off1, and_true] at l9); (have hL' := IntsAre.length I9); (try simp only [len_expand] at hL'); (try dsimp only))))


local macro_rules | `(tactic| walk_at "eval ListComp") => `(tactic| (k_here; refine Halt.mk ?_))
def CH : List Nat := [113, 112, 122, 114, 121, 57, 120, 56, 103, 102, 50, 116, 118, 100, 119, 48, 115, 51, 106, 110, 53, 52, 107, 104, 99, 101, 54, 109, 117, 97, 55, 108]
def chS (v : Int) : Str := ⟨#[CH.getD v.toNat 0]⟩
theorem ch_item_nat : ∀ k : Fin 32, Txt.item (Str.ofString "qpzry9x8gf2tvdw0s3jn54khce6mua7l") ((k.val : Nat) : Int) = chS ((k.val : Nat) : Int) := by decide +kernel
theorem ch_item {v : Int} (h0 : 0 ≤ v) (h1 : v < 32) : Txt.item (Str.ofString "qpzry9x8gf2tvdw0s3jn54khce6mua7l") v = chS v := by
  have h := ch_item_nat ⟨v.toNat, by omega⟩
  have e : ((v.toNat : Nat) : Int) = v := by omega
  simpa only [e] using h
theorem fits32 {v : Int} (h0 : 0 ≤ v) (h1 : v < 32) : fitsSsize v = true := by
  have a : -(2 : Int) ^ 63 ≤ v := by omega
  have b : v < (2 : Int) ^ 63 := by omega
  simp [fitsSsize]
  omega
theorem ce_str {s₁ : Shared} {h₀ h' : Heap} {L I C D : Addr} {m : Str → Option Value} {oI oC oD : Obj} {S : Led → Prop} {news all : Led} {tk : Nat} {r r' : Str} {t : Tok} {y : Value}
    (F : Fr h₀ L h' m) (N : News h₀ L h' all) (sub : ∀ p ∈ (I, oI) :: (C, oC) :: (D, oD) :: news, p ∈ all) (off : LCg.Off3 I C D news) (hS : S news) (hy : y = .str r' t) (e : r' = r) :
    LCg.CompEnd h₀ L m s₁ I oI C oC D oD S (fun y news' => KCtEl news r y news') y { s₁ with heap := h', toks := tk } :=
  LCg.CompEnd.intro F N news sub off hS ⟨rfl, t, by rw [hy, e]⟩
def textS (f : Str) (vs : List Int) : Str := f ++ Str.ofString "1" ++ Txt.join (Str.ofString "") (List.map chS vs)
theorem text_c {w : World} {mean : ExcName → Option Value} {mg mb : Str → Option Value} {news : Led} {f : Str} {t : Tok} {l : Addr} {ws : List Value} {n : Nat} {vs : List Int} (hf : f.length ≤ 6) (hl : (l, W.listOf ws.toArray n) ∈ news) (hi : IntsAre ws vs) (hs : vs.length ≤ 60) (hv : ∀ v ∈ vs, 0 ≤ v ∧ v < 32) :
    Con 0 w mean mg mb 83 [.str f t, .ref l] news (RetStr news (textS f vs)) := by
  unfold Con
  k_fill
  intro dp un gd cn cs a ccd cl outer A₀ base h₀ L m s Q E B F X N T hk hd hu hret
  w_top off
  w_strict (
    have hwl := hi.length
    refine wpAny_call ?_
    k_dflt cell_enter
    k_steps
    refine Halt.go ?_
    rename Fr _ _ _ _ => F1
    k_dflt (refine LCg.ListComp_U (F₀ := F1) (by with_unfolding_all rfl) (by decide) (by rfl) (by decide) (by rfl) ?_)
    k_steps
    rename News _ _ _ _ => N1
    refine LCg.CompSrc.ledger (by rfl) F1 N1 hl (by ktr_unf) ?_
    intro g'
    refine' kct_list chS hi (fun k' t' I' oI' C' oC' D' m' ys' h' tk' E' hk' hC' hx' F' N' off' ne' hM' => ?_) ?_
    · clear F1 N1
      k_steps
      have hkb := hv _ hk'
      refine item_str (fits32 hkb.1 hkb.2) (by show -(32 : Int) ≤ _; omega) (by show _ < (32 : Int); omega) (fun _ => ?_)
      exact ce_str F' N' (fun p hp => hp) off' (.inr ⟨_, hl, rfl, _, rfl⟩) rfl (ch_item hkb.1 hkb.2)
    · k_steps
      all_goals exact ret_str hret rfl (by k_asm) (by k_asm) (fun p hp => by kcf_m))
end Mine
end
/-! part C7 -/
section
open PySem PySem.W PyProof.Rows
set_option Elab.async false
set_option maxRecDepth 100000
set_option maxHeartbeats 8000000
set_option linter.unusedSimpArgs false
set_option linter.unusedVariables false
set_option pp.deepTerms false
set_option pp.deepTerms.threshold 20
set_option pp.proofs false
namespace Mine
theorem len_create (f : Str) (vs : List Int) : (createI f vs).length = 6 := by
  unfold createI
  rw [List.length_map, rangeKs_length]
theorem mem_create {f : Str} {vs : List Int} {v : Int} (h : v ∈ createI f vs) : 0 ≤ v ∧ v < 32 := by
  unfold createI at h
  obtain ⟨k, _, rfl⟩ := List.mem_map.mp h
  have := bitAnd_range ((Builtin.bitXor (polyI (expandI f ++ vs ++ [0, 0, 0, 0, 0, 0])) 1).fdiv (2 ^ (5 * (5 - k)).toNat)) (y := 31) (by decide)
  omega
local macro_rules | `(tactic| k_mem) => `(tactic| kcf_m)
-- a list of the ledger; a length; a list's copy; two lists joined
local macro_rules | `(tactic| is_list) => `(tactic| exact News.isList (by k_asm) (by k_mem))
local macro_rules | `(tactic| ktr_unf) => `(tactic| ((simp only [sizeLine_eq, List.size_toArray, List.length_append, List.length_cons, List.length_nil, List.length_map, len_expand, len_create]); omega))
local macro_rules | `(tactic| walk_at "call type:list") => `(tactic| (k_here; (with_reducible show wpAny _ _ (call (Value.type "list") [Value.ref _]) _ _ _); k_dflt (refine' list_copyK ?k1 ?k2 ?k3 ?_ ?z; (case k1 => k_asm); (case k2 => k_asm); (case k3 => is_list); (case z => ktr_unf); k_whole); intro D' c' h' F' N' l1; (try k_lt l1)))
local macro_rules | `(tactic| walk_at "binaryOp Add ref ref") => `(tactic| (k_here; (with_reducible show wpAny _ _ (binaryOp _ (Value.ref _) (Value.ref _)) _ _ _); k_dflt (refine' kmk_add_ints ?F ?N ?a ?b ?i ?j ?_ ?z; (case F => k_asm); (case N => k_asm); (case a => is_list); (case b => is_list); (case i => l_ints); (case j => l_ints); (case z => ktr_unf)); intro D' ws' h' F' N' l1 hI'; (try k_lt l1); (have hL' := IntsAre.length hI'); (try simp only [List.length_append, List.length_cons, List.length_nil, List.length_map, len_expand, len_create] at hL')))
-- the calls of what is shown above
local macro_rules | `(tactic| walk_at "call ref") => `(tactic| (k_here; k_dflt (refine' Con.use (poly_c ?hl ?hi) ?cuB ?cuF ?cuX ?cuN ?cuT ?cuk ?cud ?cuu ?_; (case cuF => k_asm); (case cuN => k_asm); (case hl => k_mem); (case hi => l_ints); (case cuB => k_asm); (case cuX => k_asm); (case cuT => k_asm); (case cuk => first | exact rfl | assumption); (case cud => ktr_room); (case cuu => ktr_units); intro t9 h9 tk9 F9 N9; (try dsimp only))))
local macro_rules | `(tactic| walk_at "call ref") => `(tactic| (k_here; k_dflt (refine' Con.use (expand_c ?hl) ?cuB ?cuF ?cuX ?cuN ?cuT ?cuk ?cud ?cuu ?_; (case cuF => k_asm); (case cuN => k_asm); (case hl => assumption); (case cuB => k_asm); (case cuX => k_asm); (case cuT => k_asm); (case cuk => first | exact rfl | assumption); (case cud => ktr_room); (case cuu => ktr_units); intro r9 ws9 n9 h9 tk9 I9 l9 F9 N9; (try simp only [LCg.Off1, and_true] at l9); (have hL' := IntsAre.length I9); (try simp only [len_expand, len_create] at hL'); (try dsimp only))))

local macro_rules | `(tactic| walk_at "call ref") => `(tactic| (k_here; k_dflt (refine' Con.use (create_c ?hl ?hm ?hi ?hs) ?cuB ?cuF ?cuX ?cuN ?cuT ?cuk ?cud ?cuu ?_; (case cuF => k_asm); (case cuN => k_asm); (case hl => assumption); (case hm => k_mem); (case hi => l_ints); (case hs => first | assumption | omega); (case cuB => k_asm); (case cuX => k_asm); (case cuT => k_asm); (case cuk => first | exact rfl | assumption); (case cud => ktr_room); (case cuu => ktr_units); intro r9 ws9 n9 h9 tk9 I9 l9 F9 N9; (try simp only [LCg.Off1, and_true] at l9); (have hL' := IntsAre.length I9); (try simp only [len_create] at hL'); (try dsimp only))))
local macro_rules | `(tactic| walk_at "eval ListComp") => `(tactic| (k_here; refine Halt.mk ?_))
theorem encode_c {w : World} {mean : ExcName → Option Value} {mg mb : Str → Option Value} {news : Led} {f : Str} {t : Tok} {l : Addr} {ws : List Value} {n : Nat} {vs : List Int} (hf : f.length ≤ 6) (hl : (l, W.listOf ws.toArray n) ∈ news) (hi : IntsAre ws vs) (hs : vs.length ≤ 40) (hv : ∀ v ∈ vs, 0 ≤ v ∧ v < 32) :
    Con 2 w mean mg mb 43 [.str f t, .ref l] news (RetStr news (textS f (vs ++ createI f vs))) := by
  unfold Con
  k_fill
  intro dp un gd cn cs a ccd cl outer A₀ base h₀ L m s Q E B F X N T hk hd hu hret
  w_top off
  w_strict (
    have hwl := hi.length
    have hs6 : vs.length ≤ 60 := by omega
    refine wpAny_call ?_
    k_dflt cell_enter
    k_steps
    refine Halt.go ?_
    rename Fr _ _ _ _ => F1
    k_dflt (refine LCg.ListComp_U (F₀ := F1) (by with_unfolding_all rfl) (by decide) (by rfl) (by decide) (by rfl) ?_)
    k_steps
    rename News _ _ _ _ => N1
    rename IntsAre _ (vs ++ createI f vs) => I1
    have hv1 : ∀ v ∈ vs ++ createI f vs, 0 ≤ v ∧ v < 32 := fun v h => (List.mem_append.mp h).elim (hv v) mem_create
    refine LCg.CompSrc.ledger (by rfl) F1 N1 (by kcf_m) (by ktr_unf) ?_
    intro g'
    refine' kct_list chS I1 (fun k' t' I' oI' C' oC' D' m' ys' h' tk' E' hk' hC' hx' F' N' off' ne' hM' => ?_) ?_
    · k_steps
      have hkb := hv1 _ hk'
      refine item_str (fits32 hkb.1 hkb.2) (by show -(32 : Int) ≤ _; omega) (by show _ < (32 : Int); omega) (fun _ => ?_)
      exact ce_str F' N' (fun p hp => hp) off' (.inr ⟨_, by kcf_m, rfl, _, rfl⟩) rfl (ch_item hkb.1 hkb.2)
    · skip
      k_steps
      all_goals exact ret_str hret rfl (by k_asm) (by k_asm) (fun p hp => by kcf_m))
end Mine
end
/-! part C8 -/
section
-- the walk keeps its lines by their number alone: so the numbers of two parts that stand together must differ
local macro_rules | `(tactic| walk_at "pad 0") => `(tactic| fail)
local macro_rules | `(tactic| walk_at "pad 1") => `(tactic| fail)
local macro_rules | `(tactic| walk_at "pad 2") => `(tactic| fail)
local macro_rules | `(tactic| walk_at "pad 3") => `(tactic| fail)
local macro_rules | `(tactic| walk_at "pad 4") => `(tactic| fail)
local macro_rules | `(tactic| walk_at "pad 5") => `(tactic| fail)
local macro_rules | `(tactic| walk_at "pad 6") => `(tactic| fail)
local macro_rules | `(tactic| walk_at "pad 7") => `(tactic| fail)
local macro_rules | `(tactic| walk_at "pad 8") => `(tactic| fail)
local macro_rules | `(tactic| walk_at "pad 9") => `(tactic| fail)
local macro_rules | `(tactic| walk_at "pad 10") => `(tactic| fail)
local macro_rules | `(tactic| walk_at "pad 11") => `(tactic| fail)
local macro_rules | `(tactic| walk_at "pad 12") => `(tactic| fail)
local macro_rules | `(tactic| walk_at "pad 13") => `(tactic| fail)
local macro_rules | `(tactic| walk_at "pad 14") => `(tactic| fail)
local macro_rules | `(tactic| walk_at "pad 15") => `(tactic| fail)
local macro_rules | `(tactic| walk_at "pad 16") => `(tactic| fail)
local macro_rules | `(tactic| walk_at "pad 17") => `(tactic| fail)
local macro_rules | `(tactic| walk_at "pad 18") => `(tactic| fail)
local macro_rules | `(tactic| walk_at "pad 19") => `(tactic| fail)
local macro_rules | `(tactic| walk_at "pad 20") => `(tactic| fail)
local macro_rules | `(tactic| walk_at "pad 21") => `(tactic| fail)
local macro_rules | `(tactic| walk_at "pad 22") => `(tactic| fail)
local macro_rules | `(tactic| walk_at "pad 23") => `(tactic| fail)
local macro_rules | `(tactic| walk_at "pad 24") => `(tactic| fail)
local macro_rules | `(tactic| walk_at "pad 25") => `(tactic| fail)
local macro_rules | `(tactic| walk_at "pad 26") => `(tactic| fail)
local macro_rules | `(tactic| walk_at "pad 27") => `(tactic| fail)
local macro_rules | `(tactic| walk_at "pad 28") => `(tactic| fail)
local macro_rules | `(tactic| walk_at "pad 29") => `(tactic| fail)
open PySem PySem.W PyProof.Rows
set_option Elab.async false
set_option maxRecDepth 100000
set_option maxHeartbeats 8000000
set_option linter.unusedSimpArgs false
set_option linter.unusedVariables false
set_option pp.deepTerms false
set_option pp.deepTerms.threshold 20
set_option pp.proofs false
namespace Mine
local macro_rules | `(tactic| k_mem) => `(tactic| kcf_m)
-- a list of the ledger; a length; a list's copy; two lists joined
local macro_rules | `(tactic| is_list) => `(tactic| exact News.isList (by k_asm) (by k_mem))
local macro_rules | `(tactic| ktr_unf) => `(tactic| ((simp only [sizeLine_eq, List.size_toArray, List.length_append, List.length_cons, List.length_nil, List.length_map, len_expand, len_create]); omega))
local macro_rules | `(tactic| walk_at "call type:list") => `(tactic| (k_here; (with_reducible show wpAny _ _ (call (Value.type "list") [Value.ref _]) _ _ _); k_dflt (refine' list_copyK ?k1 ?k2 ?k3 ?_ ?z; (case k1 => k_asm); (case k2 => k_asm); (case k3 => is_list); (case z => ktr_unf); k_whole); intro D' c' h' F' N' l1; (try k_lt l1)))
local macro_rules | `(tactic| walk_at "binaryOp Add ref ref") => `(tactic| (k_here; (with_reducible show wpAny _ _ (binaryOp _ (Value.ref _) (Value.ref _)) _ _ _); k_dflt (refine' kmk_add_ints ?F ?N ?a ?b ?i ?j ?_ ?z; (case F => k_asm); (case N => k_asm); (case a => is_list); (case b => is_list); (case i => l_ints); (case j => l_ints); (case z => ktr_unf)); intro D' ws' h' F' N' l1 hI'; (try k_lt l1); (have hL' := IntsAre.length hI'); (try simp only [List.length_append, List.length_cons, List.length_nil, List.length_map, len_expand, len_create] at hL')))
-- the calls of what is shown above
local macro_rules | `(tactic| walk_at "call ref") => `(tactic| (k_here; k_dflt (refine' Con.use (poly_c ?hl ?hi) ?cuB ?cuF ?cuX ?cuN ?cuT ?cuk ?cud ?cuu ?_; (case cuF => k_asm); (case cuN => k_asm); (case hl => k_mem); (case hi => l_ints); (case cuB => k_asm); (case cuX => k_asm); (case cuT => k_asm); (case cuk => first | exact rfl | assumption); (case cud => ktr_room); (case cuu => ktr_units); intro t9 h9 tk9 F9 N9; (try dsimp only))))
local macro_rules | `(tactic| walk_at "call ref") => `(tactic| (k_here; k_dflt (refine' Con.use (expand_c ?hl) ?cuB ?cuF ?cuX ?cuN ?cuT ?cuk ?cud ?cuu ?_; (case cuF => k_asm); (case cuN => k_asm); (case hl => assumption); (case cuB => k_asm); (case cuX => k_asm); (case cuT => k_asm); (case cuk => first | exact rfl | assumption); (case cud => ktr_room); (case cuu => ktr_units); intro r9 ws9 n9 h9 tk9 I9 l9 F9 N9; (try simp only [LCg.Off1, and_true] at l9); (have hL' := IntsAre.length I9); (try simp only [len_expand, len_create] at hL'); (try dsimp only))))

local macro_rules | `(tactic| walk_at "call ref") => `(tactic| (k_here; k_dflt (refine' Con.use (create_c ?hl ?hm ?hi ?hs) ?cuB ?cuF ?cuX ?cuN ?cuT ?cuk ?cud ?cuu ?_; (case cuF => k_asm); (case cuN => k_asm); (case hl => assumption); (case hm => k_mem); (case hi => l_ints); (case hs => first | assumption | omega); (case cuB => k_asm); (case cuX => k_asm); (case cuT => k_asm); (case cuk => first | exact rfl | assumption); (case cud => ktr_room); (case cuu => ktr_units); intro r9 ws9 n9 h9 tk9 I9 l9 F9 N9; (try simp only [LCg.Off1, and_true] at l9); (have hL' := IntsAre.length I9); (try simp only [len_create] at hL'); (try dsimp only))))
local macro_rules | `(tactic| k_all) => `(tactic| first | exact all_ne_up (by assumption) | exact all_ne_up' (by assumption))

def overI (vs : List Int) (st : Int) (xs : List Int) : List Int := vs.take st.toNat ++ (rangeKs 0 6).map (fun k => Builtin.bitXor (vs.getD (st + k).toNat 0) (xs.getD k.toNat 0)) ++ vs.drop (st + 6).toNat
local macro_rules | `(tactic| walk_at "eval ListComp") => `(tactic| (k_here; refine Halt.mk ?_))
theorem over_c {w : World} {mean : ExcName → Option Value} {mg mb : Str → Option Value} {news : Led} {l l2 : Addr} {ws us : List Value} {n n2 : Nat} {vs xs : List Int} {st : Int} {t : Tok} (hl : (l, W.listOf ws.toArray n) ∈ news) (hi : IntsAre ws vs) (hs : vs.length ≤ 60) (hl2 : (l2, W.listOf us.toArray n2) ∈ news) (hi2 : IntsAre us xs) (hs2 : xs.length = 6) (h0 : 0 ≤ st) (h1 : st + 6 ≤ vs.length) :
    Con 1 w mean mg mb 78 [.ref l, .int st t, .ref l2] news (RetInts news (overI vs st xs)) := by
  unfold Con
  k_fill
  intro dp un gd cn cs a ccd cl outer A₀ base h₀ L m s Q E B F X N T hk hd hu hret
  w_top off
  w_strict (
    have hwl := hi.length
    have hul := hi2.length
    refine wpAny_call ?_
    k_dflt (refine' code_defC ?k1 ?k2 ?k3 ?k4 ?k5 ?kA ?kF ?kK ?k6 ?k7 ?k8 ?k9 ?kB ?kD ?_ ?c2 ?c3 ?c4; (case kA => exact rfl); (case kF => exact rfl); (case kK => assumption); (case k1 => k_asm); (case k2 => k_asm); (case k3 => k_asm); (case k4 => k_asm); (case k5 => k_asm); (case k6 => k_is); (case k7 => k_is); (case k8 => ktr_room); (case k9 => exact BindsTo.of_eq rfl); (case kB => exact rfl); (case kD => decide +kernel); (case c2 => exact rfl); (case c3 => exact rfl); (case c4 => exact rfl); k_whole; intro g' L' h' tk' cells' FG' F' N' Y' B' X' T' l1; (try k_lt l1); k_cells Y'; (try simp only [List.cons_append, List.nil_append] at N'); (try dsimp only); (try k_fold))
    k_steps
    refine Halt.go ?_
    rename Fr _ _ _ _ => F1
    k_dflt (refine LCg.ListComp_U (F₀ := F1) (by with_unfolding_all rfl) (by decide) (by rfl) (by decide) (by rfl) ?_)
    k_steps
    rename (_ < _ ∧ _) => o9
    refine ret_ints hret (by assumption) ?_ (by k_asm) (by k_asm) (by kcf_m) (off1_lt o9.2.2.2.2.2.2.2) (fun p hp => by kcf_m)
    rfl)
end Mine
end
/-! part C10 -/
section
open PySem PySem.W PyProof.Rows
set_option Elab.async false
set_option maxRecDepth 100000
set_option maxHeartbeats 8000000
set_option linter.unusedSimpArgs false
set_option linter.unusedVariables false
set_option pp.deepTerms false
set_option pp.deepTerms.threshold 20
set_option pp.proofs false
namespace Mine
theorem times_bound_nat : ∀ x y : Fin 32, 0 ≤ timesI ((x.val : Nat) : Int) ((y.val : Nat) : Int) ∧ timesI ((x.val : Nat) : Int) ((y.val : Nat) : Int) < 32 := by decide +kernel
theorem times_bound {x y : Int} (hx : 0 ≤ x ∧ x < 32) (hy : 0 ≤ y ∧ y < 32) : 0 ≤ timesI x y ∧ timesI x y < 32 := by
  have h := times_bound_nat ⟨x.toNat, by omega⟩ ⟨y.toNat, by omega⟩
  have e1 : ((x.toNat : Nat) : Int) = x := by omega
  have e2 : ((y.toNat : Nat) : Int) = y := by omega
  simpa only [e1, e2] using h
local macro_rules | `(tactic| k_mem) => `(tactic| kcf_m)
-- a list of the ledger; a length; a list's copy; two lists joined
local macro_rules | `(tactic| is_list) => `(tactic| exact News.isList (by k_asm) (by k_mem))
local macro_rules | `(tactic| ktr_unf) => `(tactic| ((simp only [sizeLine_eq, List.size_toArray, List.length_append, List.length_cons, List.length_nil, List.length_map, len_expand, len_create]); omega))
local macro_rules | `(tactic| walk_at "call type:list") => `(tactic| (k_here; (with_reducible show wpAny _ _ (call (Value.type "list") [Value.ref _]) _ _ _); k_dflt (refine' list_copyK ?k1 ?k2 ?k3 ?_ ?z; (case k1 => k_asm); (case k2 => k_asm); (case k3 => is_list); (case z => ktr_unf); k_whole); intro D' c' h' F' N' l1; (try k_lt l1)))
local macro_rules | `(tactic| walk_at "binaryOp Add ref ref") => `(tactic| (k_here; (with_reducible show wpAny _ _ (binaryOp _ (Value.ref _) (Value.ref _)) _ _ _); k_dflt (refine' kmk_add_ints ?F ?N ?a ?b ?i ?j ?_ ?z; (case F => k_asm); (case N => k_asm); (case a => is_list); (case b => is_list); (case i => l_ints); (case j => l_ints); (case z => ktr_unf)); intro D' ws' h' F' N' l1 hI'; (try k_lt l1); (have hL' := IntsAre.length hI'); (try simp only [List.length_append, List.length_cons, List.length_nil, List.length_map, len_expand, len_create] at hL')))
-- the calls of what is shown above
local macro_rules | `(tactic| walk_at "call ref") => `(tactic| (k_here; k_dflt (refine' Con.use (poly_c ?hl ?hi) ?cuB ?cuF ?cuX ?cuN ?cuT ?cuk ?cud ?cuu ?_; (case cuF => k_asm); (case cuN => k_asm); (case hl => k_mem); (case hi => l_ints); (case cuB => k_asm); (case cuX => k_asm); (case cuT => k_asm); (case cuk => first | exact rfl | assumption); (case cud => ktr_room); (case cuu => ktr_units); intro t9 h9 tk9 F9 N9; (try dsimp only))))
local macro_rules | `(tactic| walk_at "call ref") => `(tactic| (k_here; k_dflt (refine' Con.use (expand_c ?hl) ?cuB ?cuF ?cuX ?cuN ?cuT ?cuk ?cud ?cuu ?_; (case cuF => k_asm); (case cuN => k_asm); (case hl => assumption); (case cuB => k_asm); (case cuX => k_asm); (case cuT => k_asm); (case cuk => first | exact rfl | assumption); (case cud => ktr_room); (case cuu => ktr_units); intro r9 ws9 n9 h9 tk9 I9 l9 F9 N9; (try simp only [LCg.Off1, and_true] at l9); (have hL' := IntsAre.length I9); (try simp only [len_expand, len_create] at hL'); (try dsimp only))))

local macro_rules | `(tactic| walk_at "call ref") => `(tactic| (k_here; k_dflt (refine' Con.use (create_c ?hl ?hm ?hi ?hs) ?cuB ?cuF ?cuX ?cuN ?cuT ?cuk ?cud ?cuu ?_; (case cuF => k_asm); (case cuN => k_asm); (case hl => assumption); (case hm => k_mem); (case hi => l_ints); (case hs => first | assumption | omega); (case cuB => k_asm); (case cuX => k_asm); (case cuT => k_asm); (case cuk => first | exact rfl | assumption); (case cud => ktr_room); (case cuu => ktr_units); intro r9 ws9 n9 h9 tk9 I9 l9 F9 N9; (try simp only [LCg.Off1, and_true] at l9); (have hL' := IntsAre.length I9); (try simp only [len_create] at hL'); (try dsimp only))))
local macro_rules | `(tactic| k_all) => `(tactic| first | exact all_ne_up (by assumption) | exact all_ne_up' (by assumption))
local macro_rules | `(tactic| walk_at "call ref") => `(tactic| (k_here; k_dflt (refine' Con.use (times_c ?hx ?hy) ?cuB ?cuF ?cuX ?cuN ?cuT ?cuk ?cud ?cuu ?_; (case cuF => k_asm); (case cuN => k_asm); (case hx => first | decide | assumption); (case hy => first | decide | assumption); (case cuB => k_asm); (case cuX => k_asm); (case cuT => k_asm); (case cuk => first | exact rfl | assumption); (case cud => ktr_room); (case cuu => ktr_units); intro t9 h9 tk9 F9 N9; (try dsimp only))))
def backI (x0 x1 x2 x3 x4 x5 : Int) : List Int := [timesI x5 17, Builtin.bitXor x0 (timesI 29 (timesI x5 17)), Builtin.bitXor x1 (timesI 22 (timesI x5 17)), Builtin.bitXor x2 (timesI 20 (timesI x5 17)), Builtin.bitXor x3 (timesI 21 (timesI x5 17)), Builtin.bitXor x4 (timesI 29 (timesI x5 17))]
theorem back_c {w : World} {mean : ExcName → Option Value} {mg mb : Str → Option Value} {news : Led} {l : Addr} {ws : List Value} {n : Nat} {x0 x1 x2 x3 x4 x5 : Int} (hl : (l, W.listOf ws.toArray n) ∈ news) (hi : IntsAre ws [x0, x1, x2, x3, x4, x5]) (hx : 0 ≤ x5 ∧ x5 < 32) :
    Con 1 w mean mg mb 73 [.ref l] news (RetInts news (backI x0 x1 x2 x3 x4 x5)) := by
  unfold Con
  k_fill
  intro dp un gd cn cs a ccd cl outer A₀ base h₀ L m s Q E B F X N T hk hd hu hret
  w_top off
  w_strict (
    have hwl := hi.length
    have htop := times_bound hx (y := 17) (by decide)
    refine wpAny_call ?_
    k_dflt cell_enter
    k_steps
    rename (∀ p ∈ news, p.1 < _) => o9
    rename Fr h₀ L _ _ => F9
    rename News h₀ L _ _ => N9
    refine' ret_ints hret (IntsAre.cons _ _ (IntsAre.cons _ _ (IntsAre.cons _ _ (IntsAre.cons _ _ (IntsAre.cons _ _ (IntsAre.cons _ _ IntsAre.nil)))))) ?e F9 N9 ?hm (off1_of o9) ?sub
    case hm => exact List.mem_cons_self
    case sub => exact fun p hp => List.mem_cons_of_mem _ hp
    case e => rfl)
end Mine
end
/-! part C11 -/
section
-- the walk keeps its lines by their number alone: so the numbers of two parts that stand together must differ
local macro_rules | `(tactic| walk_at "pad 0") => `(tactic| fail)
local macro_rules | `(tactic| walk_at "pad 1") => `(tactic| fail)
local macro_rules | `(tactic| walk_at "pad 2") => `(tactic| fail)
local macro_rules | `(tactic| walk_at "pad 3") => `(tactic| fail)
local macro_rules | `(tactic| walk_at "pad 4") => `(tactic| fail)
local macro_rules | `(tactic| walk_at "pad 5") => `(tactic| fail)
local macro_rules | `(tactic| walk_at "pad 6") => `(tactic| fail)
local macro_rules | `(tactic| walk_at "pad 7") => `(tactic| fail)
local macro_rules | `(tactic| walk_at "pad 8") => `(tactic| fail)
local macro_rules | `(tactic| walk_at "pad 9") => `(tactic| fail)
local macro_rules | `(tactic| walk_at "pad 10") => `(tactic| fail)
local macro_rules | `(tactic| walk_at "pad 11") => `(tactic| fail)
local macro_rules | `(tactic| walk_at "pad 12") => `(tactic| fail)
local macro_rules | `(tactic| walk_at "pad 13") => `(tactic| fail)
local macro_rules | `(tactic| walk_at "pad 14") => `(tactic| fail)
local macro_rules | `(tactic| walk_at "pad 15") => `(tactic| fail)
local macro_rules | `(tactic| walk_at "pad 16") => `(tactic| fail)
local macro_rules | `(tactic| walk_at "pad 17") => `(tactic| fail)
local macro_rules | `(tactic| walk_at "pad 18") => `(tactic| fail)
local macro_rules | `(tactic| walk_at "pad 19") => `(tactic| fail)
local macro_rules | `(tactic| walk_at "pad 20") => `(tactic| fail)
local macro_rules | `(tactic| walk_at "pad 21") => `(tactic| fail)
local macro_rules | `(tactic| walk_at "pad 22") => `(tactic| fail)
local macro_rules | `(tactic| walk_at "pad 23") => `(tactic| fail)
local macro_rules | `(tactic| walk_at "pad 24") => `(tactic| fail)
local macro_rules | `(tactic| walk_at "pad 25") => `(tactic| fail)
local macro_rules | `(tactic| walk_at "pad 26") => `(tactic| fail)
local macro_rules | `(tactic| walk_at "pad 27") => `(tactic| fail)
local macro_rules | `(tactic| walk_at "pad 28") => `(tactic| fail)
local macro_rules | `(tactic| walk_at "pad 29") => `(tactic| fail)
open PySem PySem.W PyProof.Rows
set_option Elab.async false
set_option maxRecDepth 100000
set_option maxHeartbeats 8000000
set_option linter.unusedSimpArgs false
set_option linter.unusedVariables false
set_option pp.deepTerms false
set_option pp.deepTerms.threshold 20
set_option pp.proofs false
namespace Mine
local macro_rules | `(tactic| k_mem) => `(tactic| kcf_m)
-- a list of the ledger; a length; a list's copy; two lists joined
local macro_rules | `(tactic| is_list) => `(tactic| exact News.isList (by k_asm) (by k_mem))
local macro_rules | `(tactic| ktr_unf) => `(tactic| ((simp only [sizeLine_eq, List.size_toArray, List.length_append, List.length_cons, List.length_nil, List.length_map, len_expand, len_create]); omega))
local macro_rules | `(tactic| walk_at "call type:list") => `(tactic| (k_here; (with_reducible show wpAny _ _ (call (Value.type "list") [Value.ref _]) _ _ _); k_dflt (refine' list_copyK ?k1 ?k2 ?k3 ?_ ?z; (case k1 => k_asm); (case k2 => k_asm); (case k3 => is_list); (case z => ktr_unf); k_whole); intro D' c' h' F' N' l1; (try k_lt l1)))
local macro_rules | `(tactic| walk_at "binaryOp Add ref ref") => `(tactic| (k_here; (with_reducible show wpAny _ _ (binaryOp _ (Value.ref _) (Value.ref _)) _ _ _); k_dflt (refine' kmk_add_ints ?F ?N ?a ?b ?i ?j ?_ ?z; (case F => k_asm); (case N => k_asm); (case a => is_list); (case b => is_list); (case i => l_ints); (case j => l_ints); (case z => ktr_unf)); intro D' ws' h' F' N' l1 hI'; (try k_lt l1); (have hL' := IntsAre.length hI'); (try simp only [List.length_append, List.length_cons, List.length_nil, List.length_map, len_expand, len_create] at hL')))
-- the calls of what is shown above
local macro_rules | `(tactic| walk_at "call ref") => `(tactic| (k_here; k_dflt (refine' Con.use (poly_c ?hl ?hi) ?cuB ?cuF ?cuX ?cuN ?cuT ?cuk ?cud ?cuu ?_; (case cuF => k_asm); (case cuN => k_asm); (case hl => k_mem); (case hi => l_ints); (case cuB => k_asm); (case cuX => k_asm); (case cuT => k_asm); (case cuk => first | exact rfl | assumption); (case cud => ktr_room); (case cuu => ktr_units); intro t9 h9 tk9 F9 N9; (try dsimp only))))
local macro_rules | `(tactic| walk_at "call ref") => `(tactic| (k_here; k_dflt (refine' Con.use (expand_c ?hl) ?cuB ?cuF ?cuX ?cuN ?cuT ?cuk ?cud ?cuu ?_; (case cuF => k_asm); (case cuN => k_asm); (case hl => assumption); (case cuB => k_asm); (case cuX => k_asm); (case cuT => k_asm); (case cuk => first | exact rfl | assumption); (case cud => ktr_room); (case cuu => ktr_units); intro r9 ws9 n9 h9 tk9 I9 l9 F9 N9; (try simp only [LCg.Off1, and_true] at l9); (have hL' := IntsAre.length I9); (try simp only [len_expand, len_create] at hL'); (try dsimp only))))

local macro_rules | `(tactic| walk_at "call ref") => `(tactic| (k_here; k_dflt (refine' Con.use (create_c ?hl ?hm ?hi ?hs) ?cuB ?cuF ?cuX ?cuN ?cuT ?cuk ?cud ?cuu ?_; (case cuF => k_asm); (case cuN => k_asm); (case hl => assumption); (case hm => k_mem); (case hi => l_ints); (case hs => first | assumption | omega); (case cuB => k_asm); (case cuX => k_asm); (case cuT => k_asm); (case cuk => first | exact rfl | assumption); (case cud => ktr_room); (case cuu => ktr_units); intro r9 ws9 n9 h9 tk9 I9 l9 F9 N9; (try simp only [LCg.Off1, and_true] at l9); (have hL' := IntsAre.length I9); (try simp only [len_create] at hL'); (try dsimp only))))
local macro_rules | `(tactic| k_all) => `(tactic| first | exact all_ne_up (by assumption) | exact all_ne_up' (by assumption))

local macro_rules | `(tactic| walk_at "eval ListComp") => `(tactic| (k_here; refine Halt.mk ?_))
theorem over_t {w : World} {mean : ExcName → Option Value} {mg mb : Str → Option Value} {news : Led} {l : Addr} {ws : List Value} {n : Nat} {vs : List Int} {st : Int} {t : Tok} (hl : (l, W.listOf ws.toArray n) ∈ news) (hi : IntsAre ws vs) (hs : vs.length ≤ 60) (h0 : 0 ≤ st) (h1 : st + 6 ≤ vs.length) :
    Con 1 w mean mg mb 78 [.ref l, .int st t, .ref 52] news (RetInts news (overI vs st [21, 28, 16, 12, 5, 2])) := by
  unfold Con
  k_fill
  intro dp un gd cn cs a ccd cl outer A₀ base h₀ L m s Q E B F X N T hk hd hu hret
  w_top off
  w_strict (
    have hwl := hi.length
    refine wpAny_call ?_
    k_dflt (refine' code_defC ?k1 ?k2 ?k3 ?k4 ?k5 ?kA ?kF ?kK ?k6 ?k7 ?k8 ?k9 ?kB ?kD ?_ ?c2 ?c3 ?c4; (case kA => exact rfl); (case kF => exact rfl); (case kK => assumption); (case k1 => k_asm); (case k2 => k_asm); (case k3 => k_asm); (case k4 => k_asm); (case k5 => k_asm); (case k6 => k_is); (case k7 => k_is); (case k8 => ktr_room); (case k9 => exact BindsTo.of_eq rfl); (case kB => exact rfl); (case kD => decide +kernel); (case c2 => exact rfl); (case c3 => exact rfl); (case c4 => exact rfl); k_whole; intro g' L' h' tk' cells' FG' F' N' Y' B' X' T' l1; (try k_lt l1); k_cells Y'; (try simp only [List.cons_append, List.nil_append] at N'); (try dsimp only); (try k_fold))
    k_steps
    refine Halt.go ?_
    rename Fr _ _ _ _ => F1
    k_dflt (refine LCg.ListComp_U (F₀ := F1) (by with_unfolding_all rfl) (by decide) (by rfl) (by decide) (by rfl) ?_)
    k_steps
    rename (_ < _ ∧ _) => o9
    refine ret_ints hret (by assumption) ?_ (by k_asm) (by k_asm) (by kcf_m) (off1_lt o9.2.2.2.2.2.2.2) (fun p hp => by kcf_m)
    rfl)
end Mine
end
/-! part D1 -/
section
open PySem PySem.W PyProof.Rows
set_option Elab.async false
set_option maxRecDepth 100000
set_option maxHeartbeats 4000000
set_option linter.unusedSimpArgs false
set_option linter.unusedVariables false
namespace Mine
open PySem.Spec PySem.Calls

/-- what becomes of a code table when the block at pos is made: a new entry, or none if it stands there -/
def TabNext (pos : Pos) (ps ps' : Array Value) : Prop :=
  (codeAmong pos ps.toList = none ∧ ∃ c' : Addr, ps' = ps ++ #[rawInt pos.line, rawInt pos.col, .ref c']) ∨ ((∃ c' : Addr, codeAmong pos ps.toList = some (.ref c')) ∧ ps' = ps)

section
variable {prog : Program} {w : World} {A : Around} {E : Value → Shared → Prop} {s : Shared} {h₀ : Heap} {c P L : Addr} {ps : Array Value} {m mg mb : Str → Option Value} {p : Program} {loose : List Str} {mean : ExcName → Option Value}

theorem pass_all (n : Nat) : passing (fun _ => true) n 0 = List.range n := by simp [passing]

/-- what a generator over a text hands over -/
def GenTxt (prog : Program) (w : World) (A : Around) (K a : Addr) (xt : Str) (q : Nat → Bool) (s : Shared) : Prop :=
  Gen prog w A K a xt.cps.size (fun j y => ∃ k, xt.cps[j]? = some k ∧ y = .bool (q k)) s

/-- what the text that a generator expression goes over must bring -/
def GPost (prog : Program) (w : World) (A : Around) (h₀ : Heap) (P : Addr) (ps : Array Value) (rest : Led) (L : Addr) (m : Str → Option Value) (env : Env) (scope : Scope) (cl : List (Str × Addr)) (x : Str) (elt : Expr) (pos : Pos) (q : Nat → Bool) (Q : Value → Shared → Prop) (xv : Value) (s₁ : Shared) : Prop :=
  ∃ xt t, xv = .str xt t ∧ Fr h₀ L s₁.heap m ∧ News h₀ L s₁.heap ((P, tabObj ps) :: rest) ∧ AllBare s₁.gens ∧
      (∀ (c' C : Addr) (A' : Around) E' k t (u : Shared) m₂, A'.handled = none → A'.depth ≤ A.depth + 1 → A'.units ≤ A.units + 8 → k ∈ xt.cps.toList → Fr h₀ C u.heap m₂ → m₂ x = some (.str ⟨#[k]⟩ t) →
        wpAny (model prog w) A' (eval elt (genEnv scope cl C (.ref c') builtinsNs env)) (fun y s₃ => y = .bool (q k) ∧ Keeps u s₃) E' u) ∧
      (∀ (a K : Addr) (s₅ : Shared) (ps' : Array Value), TabNext pos ps ps' → Fr h₀ L s₅.heap m → News h₀ L s₅.heap ((P, tabObj ps') :: rest) → AllBare s₅.gens → s₅.os = s₁.os → L ≤ K → (∀ p ∈ (P, tabObj ps') :: rest, p.1 ≤ K) →
        GenTxt prog w A K a xt q s₅ → Q (.ref a) s₅)
theorem genexp_S {env : Env} {elt iter : Expr} {x : Str} {px : Pos} {scope : Scope} {cl : List (Str × Addr)} {pos : Pos} {rest : Led} {q : Nat → Bool} {Q : Value → Shared → Prop}
    (_F0 : Fr h₀ L s.heap m) (T : Top p loose mean mg mb h₀) (C : CodeHd h₀ c P) (hcode : env.code = .ref c) (hglob : env.globals = mainGlobals) (ht : TriplesOk ps.toList) (hps : codeAmong pos ps.toList = none ∨ ∃ c' : Addr, codeAmong pos ps.toList = some (.ref c'))
    (hrest : ∀ p ∈ rest, p.1 ≠ P)
    (hh : A.handled = none) (hco : scope.isCoroutine = false) (hclos : closureFor scope env = pure cl) (hcell : ∀ y ∈ scope.names, y.2 ≠ .cell) (h0 : scope.names.lookup (".0" : Str) = some NameKind.local)
    (hx : scope.names.lookup x = some .local) (hkind : scope.kind = .function) (hroom : A.depth < recursionLimit)
    (h : wpAny (model prog w) A (eval iter env) (GPost prog w A h₀ P ps rest L m env scope cl x elt pos q Q) E s)
    (hs : ∀ x, genFold iter env x = pure x) :
    wpAny (model prog w) A (eval (.GeneratorExp elt [⟨.Name x px, iter, [], 0⟩] scope pos) env) Q E s := by
  refine wpAny_GeneratorExp_walksQD hh hco hclos hcell h0 hx hkind hroom (wpAny_mono h (fun xv s₁ h₁ => ?_) fun _ _ e => e) hs
  obtain ⟨xt, t, rfl, F, N, G, hel, hQ⟩ := h₁
  refine wpAny_pyIter_str fun o St hW hst => ?_
  have hPm := N (P, tabObj ps) (.head _)
  have hLlt : L < s₁.heap.objs.size := F.ns.lt
  have up : ∀ b o', s₁.heap.get? b = some o' → (s₁.heap.push o).get? b = some o' := fun b o' e => Heap.get?_push_of_some _ e
  have F₂ : Fr h₀ L (s₁.heap.push o) m := F.keeps up
  have hP₂ : (s₁.heap.push o).get? P = some (tabObj ps) := up _ _ hPm.1
  have hIfresh : h₀.get? s₁.heap.objs.size = none := by
    cases e : h₀.get? s₁.heap.objs.size with
    | none => rfl
    | some o' => exact absurd (Heap.lt_size (F.keep _ _ e)) (Nat.lt_irrefl _)
  have C₂ : CodeHd (s₁.heap.push o) c P := C.keeps F₂.keep
  have hlim : (s₁.heap.push o).NoLimit := (let ⟨mc, a, b⟩ := T.nolimit; ⟨mc, a.keeps F₂.keep, b⟩)
  obtain ⟨bm, ob, b1, b2, b3, b4, b5, b6⟩ := T.bmain
  have hgs := T.g.keeps F₂.keep
  have hgP : mainGlobals ≠ P := fun q => by
    obtain ⟨o, es, ep, e, hd, _⟩ := hgs
    rw [q, hP₂] at e; cases e; cases hd
  have hbP : bm ≠ P := fun q => by
    have e := F₂.keep _ _ b3
    rw [q, hP₂] at e; cases e; cases b4
  have hcP : cStatics ≠ P := fun e => by
    obtain ⟨_, hns, _⟩ := hlim
    obtain ⟨o, es, ep, ho, hd, _⟩ := hns
    rw [e, hP₂] at ho; cases ho; cases hd
  -- the rest, from the heap behind the code's making
  have go : ∀ (c' : Addr) (ps' : Array Value) (h₃ : Heap) (tk₃ : Nat), TabNext pos ps ps' → Heap.ExtBut P (s₁.heap.push o) h₃ → (s₁.heap.push o).objs.size ≤ h₃.objs.size → h₃.get? P = some (tabObj ps') →
      wpAny (model prog w) A (builtinsFor env.globals env.builtins) (fun bi s₄ =>
        ∃ I fp wr n₀ P St₀ pz F, Value.ref s₁.heap.objs.size = .ref I ∧ (∀ A' : Around, A'.handled = none → Walks prog w A' I fp wr n₀ P St₀) ∧ St₀ 0 s₄.heap ∧ (∀ b ∈ fp, b < s₄.heap.objs.size) ∧ s₄.heap.NoLimit ∧ cStatics ∉ wr ∧
          (∀ href : Heap, (∀ b o, s₄.heap.get? b = some o → href.get? b = some o) →
            QuietGenD prog w (genEnv scope cl s₄.heap.objs.size (.ref c') bi env) x [] elt (List.range s₄.heap.objs.size) wr P pz F href (A.depth + 1) (A.units + 8)) ∧
          (∀ a h₅ tk gs, gs.bare = true → s₄.heap.objs.size < a → h₅.objs.size = a + 1 → (∀ b o, s₄.heap.get? b = some o → h₅.get? b = some o) →
            WalksS prog w A.in4 a (a :: s₄.heap.objs.size :: List.range s₄.heap.objs.size) (s₄.heap.objs.size :: wr) (GenOnlyQ s₄.gens.size) (passing pz n₀ 0).length
              (fun j y => ∃ i, (passing pz n₀ 0)[j]? = some i ∧ F i y) (GenAt prog w A.in4 a s₄.gens.size s₄.heap.objs.size (List.range s₄.heap.objs.size) wr pz n₀ F) →
            GenAt prog w A.in4 a s₄.gens.size s₄.heap.objs.size (List.range s₄.heap.objs.size) wr pz n₀ F 0 { s₄ with gens := s₄.gens.push gs, toks := tk, heap := h₅ } →
            Q (.ref a) { s₄ with gens := s₄.gens.push gs, toks := tk, heap := h₅ })) E { s₁ with heap := h₃, toks := tk₃ } := by
    intro c' ps' h₃ tk₃ hnext hx₃ hsz htab
    have hPs : ∀ b o', b ≠ P → s₁.heap.get? b = some o' → h₃.get? b = some o' := fun b o' hb e => hx₃ b o' hb (up b o' e)
    have old : ∀ b o', h₀.get? b = some o' → h₃.get? b = some o' := fun b o' e => hx₃ b o' (fun q => by rw [q, hPm.2.2] at e; cases e) (F₂.keep b o' e)
    have F₃ : Fr h₀ L h₃ m := ⟨F₂.ns.extBut hx₃ hPm.2.1.symm, old, F.above⟩
    have N₃ : News h₀ L h₃ ((P, tabObj ps') :: rest) := fun r hr => by
      rcases List.mem_cons.mp hr with rfl | hr
      · exact ⟨htab, hPm.2⟩
      · have n := N r (.tail _ hr)
        exact ⟨hPs _ _ (hrest r hr) n.1, n.2⟩
    have hl₃ : h₃.NoLimit := hlim.extBut hx₃ hcP
    have hIlt : s₁.heap.objs.size < h₃.objs.size := by rw [Heap.size_push] at hsz; omega
    have hg₃ : h₃.Ns env.globals mg := by rw [hglob]; exact hgs.extBut hx₃ hgP
    refine wpAny_builtinsFor hg₃ b1 b2 (hx₃ _ _ hbP (F₂.keep _ _ b3)) b4 b5 b6 ?_
    refine ⟨s₁.heap.objs.size, [s₁.heap.objs.size], [s₁.heap.objs.size], xt.cps.size, SignAt xt, St, (fun _ => true), (fun i y => ∃ k, xt.cps[i]? = some k ∧ y = .bool (q k)), rfl, hW, ?_, ?_, hl₃, ?_, ?_, ?_⟩
    · refine (hW A hh).frame _ _ _ hst fun b hb o' e => hx₃ b o' (fun e' => ?_) e
      have hb' := List.mem_singleton.mp hb
      rw [← e', hb'] at hPm
      exact absurd (Heap.lt_size hPm.1) (Nat.lt_irrefl _)
    · intro b hb
      rw [List.mem_singleton.mp hb]
      exact hIlt
    · intro hm
      have hm' := List.mem_singleton.mp hm
      obtain ⟨mc, hns, _⟩ := T.nolimit
      have := (hns.keeps F.keep).lt
      rw [hm'] at this
      exact Nat.lt_irrefl _ this
    · intro href hhref
      have inB : ∀ (t : Shared) m₂, t.heap.Ns h₃.objs.size m₂ → (∀ b ∈ List.range h₃.objs.size, b ∉ [s₁.heap.objs.size] → ∀ o, href.get? b = some o → t.heap.get? b = some o) → Fr h₀ h₃.objs.size t.heap m₂ := fun t m₂ hn hkp =>
        ⟨hn, fun b o' e => hkp b (List.mem_range.mpr (Heap.lt_size (old b o' e))) (fun hm => by rw [List.mem_singleton.mp hm, hIfresh] at e; cases e) o' (hhref b o' (old b o' e)),
          Nat.le_trans F₃.above (Nat.le_of_lt F₃.ns.lt)⟩
      exact ⟨fun A' E' i v t m₂ hA hD hU hP hn hm hkp => wpAny_pure ⟨rfl, t.heap, t.toks, rfl, fun _ _ e => e⟩,
        fun A' E' i v t m₂ hA hD hU hP hp hn hm hkp => by
          obtain ⟨k, tk, hk, rfl⟩ := hP
          refine wpAny_mono (hel c' _ A' E' k tk t m₂ hA hD hU (List.mem_of_getElem? (by simpa using hk)) (inB t m₂ hn hkp) hm) (fun y s₃ r => ⟨⟨k, hk, r.1⟩, r.2⟩) fun _ _ e => e⟩
    · intro a h₅ tk gs hgb hag hsz₅ hk₅ W hat
      have hag' : h₃.objs.size < a := hag
      refine hQ a (s₁.heap.objs.size - 1) _ ps' hnext (F₃.keeps hk₅) (fun r hr => ⟨hk₅ _ _ (N₃ r hr).1, (N₃ r hr).2⟩) (G.push hgb) rfl (Nat.le_sub_one_of_lt hLlt) (fun r hr => ?_) ?_
      · have : r.1 < s₁.heap.objs.size := by
          rcases List.mem_cons.mp hr with rfl | hr
          · exact Heap.lt_size hPm.1
          · exact Heap.lt_size (N r (.tail _ hr)).1
        exact Nat.le_sub_one_of_lt this
      · have X : Gen prog w A (s₁.heap.objs.size - 1) a (passing (fun _ => true) xt.cps.size 0).length (fun j y => ∃ i, (passing (fun _ => true) xt.cps.size 0)[j]? = some i ∧ ∃ k, xt.cps[i]? = some k ∧ y = .bool (q k)) { s₁ with gens := s₁.gens.push gs, toks := tk, heap := h₅ } := by
          refine ⟨_, _, _, _, W, hat, (fun i s' st => st.1.typeIs), List.mem_cons_self, ?_, ?_⟩
          · intro b hb
            show b < h₅.objs.size
            rw [hsz₅]
            rcases List.mem_cons.mp hb with rfl | hb
            · exact Nat.lt_succ_self _
            · rcases List.mem_cons.mp hb with rfl | hb
              · exact Nat.lt_succ_of_lt hag
              · exact Nat.lt_succ_of_lt (Nat.lt_trans (List.mem_range.mp hb) hag)
          · intro b hb
            rcases List.mem_cons.mp hb with rfl | hb
            · show s₁.heap.objs.size - 1 < h₃.objs.size
              omega
            · rw [List.mem_singleton.mp hb]
              exact Nat.sub_lt (Nat.lt_of_le_of_lt (Nat.zero_le _) hLlt) Nat.one_pos
        rw [pass_all, List.length_range] at X
        refine X.imp fun j y hy => ?_
        obtain ⟨i, hi, r⟩ := hy
        have hi' := List.getElem?_eq_some_iff.mp hi
        obtain ⟨hlt, he⟩ := hi'
        rw [List.getElem_range] at he
        subst he
        exact r
  rcases hps with hnf | ⟨cv, hf⟩
  · refine ⟨hlim, wpAny_genexprCodeX hcode (C₂.code hP₂ ht) (C₂.tab hP₂) hnf fun c' h₃ tk₃ hx₃ hge hlt hcode₃ _ htab₃ _ => ?_⟩
    exact go c' _ h₃ tk₃ (.inl ⟨hnf, c', rfl⟩) hx₃ (Nat.le_trans hge (Nat.le_of_lt hlt)) htab₃.2
  · refine ⟨hlim, wpAny_genexprCode_hit hcode (C₂.code hP₂ ht) hf ?_⟩
    exact go cv ps (s₁.heap.push o) s₁.toks (.inr ⟨⟨cv, hf⟩, rfl⟩) (fun b o' _ e => e) (Nat.le_refl _) hP₂


theorem any_range_txt (l : List Nat) (q : Nat → Bool) : (List.range l.length).any (fun j => (l[j]?.map q).getD false) = l.any q := by
  rw [← any_rangeD l q]
  congr 1
  funext j
  cases l[j]? <;> rfl
theorem all_range_txt (l : List Nat) (q : Nat → Bool) : (List.range l.length).all (fun j => (l[j]?.map q).getD true) = l.all q := by
  rw [← all_rangeD l q]
  congr 1
  funext j
  cases l[j]? <;> rfl
theorem any_txt {K a : Addr} {xt : Str} {q : Nat → Bool} {news : Led} {Q : Value → Shared → Prop} (F : Fr h₀ L s.heap m) (N : News h₀ L s.heap news) (G : AllBare s.gens) (X : GenTxt prog w A K a xt q s) (hLK : L ≤ K) (hK : ∀ p ∈ news, p.1 ≤ K)
    (hQ : ∀ s', Fr h₀ L s'.heap m → News h₀ L s'.heap news → AllBare s'.gens → s'.os = s.os → Q (.bool (xt.cps.toList.any q)) s') : wpAny (model prog w) A (call (.builtin "any") [.ref a]) Q E s := by
  refine any_rowsK F G X hLK (fun j => (xt.cps.toList[j]?.map q).getD false) (fun j v s Q E hv hQ => ?_) fun s' F' G' hos hk => ?_
  · obtain ⟨b, hb, rfl⟩ := hv
    have hb' : xt.cps.toList[j]? = some b := by simpa using hb
    simp only [hb', Option.map_some, Option.getD_some] at hQ
    exact wpAny_truthy_bool hQ
  · have e := any_range_txt xt.cps.toList q
    rw [Array.length_toList] at e
    rw [e]
    exact hQ s' F' (fun p hp => ⟨hk _ _ (hK p hp) (N p hp).1, (N p hp).2⟩) G' hos
theorem all_txt {K a : Addr} {xt : Str} {q : Nat → Bool} {news : Led} {Q : Value → Shared → Prop} (F : Fr h₀ L s.heap m) (N : News h₀ L s.heap news) (G : AllBare s.gens) (X : GenTxt prog w A K a xt q s) (hLK : L ≤ K) (hK : ∀ p ∈ news, p.1 ≤ K)
    (hQ : ∀ s', Fr h₀ L s'.heap m → News h₀ L s'.heap news → AllBare s'.gens → s'.os = s.os → Q (.bool (xt.cps.toList.all q)) s') : wpAny (model prog w) A (call (.builtin "all") [.ref a]) Q E s := by
  refine all_rowsK F G X hLK (fun j => (xt.cps.toList[j]?.map q).getD true) (fun j v s Q E hv hQ => ?_) fun s' F' G' hos hk => ?_
  · obtain ⟨b, hb, rfl⟩ := hv
    have hb' : xt.cps.toList[j]? = some b := by simpa using hb
    simp only [hb', Option.map_some, Option.getD_some] at hQ
    exact wpAny_truthy_bool hQ
  · have e := all_range_txt xt.cps.toList q
    rw [Array.length_toList] at e
    rw [e]
    exact hQ s' F' (fun p hp => ⟨hk _ _ (hK p hp) (N p hp).1, (N p hp).2⟩) G' hos
end
section
variable {M : Model} {A : Around} {E : Value → Shared → Prop} {s : Shared} {K : Frag} {h₀ : Heap} {C : Addr} {m mg mb : Str → Option Value} {p : Program} {loose : List Str} {scope : Scope} {cl : List (Str × Addr)} {code : Value} {env : Env} {x : Str} {pos : Pos} {v : Value} {Q : Value → Shared → Prop}
theorem gen_builtin (F : Fr h₀ C s.heap m) (X : K.In h₀) (T : TopRead p loose mg mb h₀) (e : nsIn K mainGlobals x = some none) (hv : bootBuiltins x = some v) (hn : x ≠ "__name__") (h : Q v s)
    (hg : env.globals = mainGlobals := by rfl) (hk : scope.kind = .function := by rfl) (hx : (genEnv scope cl C code builtinsNs env).kindOf x = some .globalImplicit := by rfl) (hd : (x == ("__debug__" : Str)) = false := by decide) :
    wpAny M A (eval (.Name x pos) (genEnv scope cl C code builtinsNs env)) Q E s :=
  Calls.Name_function_global hk hx (Calls.loadGlobal_builtin (env := genEnv scope cl C code builtinsNs env) (show s.heap.Ns env.globals mg from hg ▸ T.g.keeps F.keep) (mg_none_of X T.g e) (T.b.keeps F.keep) ((T.builtins x hn).trans hv) h) hd
theorem gen_global (F : Fr h₀ C s.heap m) (X : K.In h₀) (T : TopRead p loose mg mb h₀) (e : nsIn K mainGlobals x = some (some v)) (h : Q v s)
    (hg : env.globals = mainGlobals := by rfl) (hk : scope.kind = .function := by rfl) (hx : (genEnv scope cl C code builtinsNs env).kindOf x = some .globalImplicit := by rfl) (hd : (x == ("__debug__" : Str)) = false := by decide) :
    wpAny M A (eval (.Name x pos) (genEnv scope cl C code builtinsNs env)) Q E s :=
  Calls.Name_function_global hk hx (Calls.loadGlobal_global (env := genEnv scope cl C code builtinsNs env) (show s.heap.Ns env.globals mg from hg ▸ T.g.keeps F.keep) (mg_of X T.g e) h) hd
end
end Mine
end
/-! part D2 -/
section
open PySem PySem.W PyProof.Rows
set_option Elab.async false
set_option maxRecDepth 100000
set_option maxHeartbeats 8000000
set_option linter.unusedSimpArgs false
set_option linter.unusedVariables false
set_option pp.deepTerms false
set_option pp.deepTerms.threshold 20
set_option pp.proofs false
namespace Mine
local macro_rules | `(tactic| k_mem) => `(tactic| kcf_m)
-- a list of the ledger; a length; a list's copy; two lists joined
local macro_rules | `(tactic| is_list) => `(tactic| exact News.isList (by k_asm) (by k_mem))
local macro_rules | `(tactic| ktr_unf) => `(tactic| ((simp only [sizeLine_eq, List.size_toArray, List.length_append, List.length_cons, List.length_nil, List.length_map, len_expand, len_create]); omega))
local macro_rules | `(tactic| walk_at "call type:list") => `(tactic| (k_here; (with_reducible show wpAny _ _ (call (Value.type "list") [Value.ref _]) _ _ _); k_dflt (refine' list_copyK ?k1 ?k2 ?k3 ?_ ?z; (case k1 => k_asm); (case k2 => k_asm); (case k3 => is_list); (case z => ktr_unf); k_whole); intro D' c' h' F' N' l1; (try k_lt l1)))
local macro_rules | `(tactic| walk_at "binaryOp Add ref ref") => `(tactic| (k_here; (with_reducible show wpAny _ _ (binaryOp _ (Value.ref _) (Value.ref _)) _ _ _); k_dflt (refine' kmk_add_ints ?F ?N ?a ?b ?i ?j ?_ ?z; (case F => k_asm); (case N => k_asm); (case a => is_list); (case b => is_list); (case i => l_ints); (case j => l_ints); (case z => ktr_unf)); intro D' ws' h' F' N' l1 hI'; (try k_lt l1); (have hL' := IntsAre.length hI'); (try simp only [List.length_append, List.length_cons, List.length_nil, List.length_map, len_expand, len_create] at hL')))
-- the calls of what is shown above
local macro_rules | `(tactic| walk_at "call ref") => `(tactic| (k_here; k_dflt (refine' Con.use (poly_c ?hl ?hi) ?cuB ?cuF ?cuX ?cuN ?cuT ?cuk ?cud ?cuu ?_; (case cuF => k_asm); (case cuN => k_asm); (case hl => k_mem); (case hi => l_ints); (case cuB => k_asm); (case cuX => k_asm); (case cuT => k_asm); (case cuk => first | exact rfl | assumption); (case cud => ktr_room); (case cuu => ktr_units); intro t9 h9 tk9 F9 N9; (try dsimp only))))
local macro_rules | `(tactic| walk_at "call ref") => `(tactic| (k_here; k_dflt (refine' Con.use (expand_c ?hl) ?cuB ?cuF ?cuX ?cuN ?cuT ?cuk ?cud ?cuu ?_; (case cuF => k_asm); (case cuN => k_asm); (case hl => assumption); (case cuB => k_asm); (case cuX => k_asm); (case cuT => k_asm); (case cuk => first | exact rfl | assumption); (case cud => ktr_room); (case cuu => ktr_units); intro r9 ws9 n9 h9 tk9 I9 l9 F9 N9; (try simp only [LCg.Off1, and_true] at l9); (have hL' := IntsAre.length I9); (try simp only [len_expand, len_create] at hL'); (try dsimp only))))

local macro_rules | `(tactic| walk_at "call ref") => `(tactic| (k_here; k_dflt (refine' Con.use (create_c ?hl ?hm ?hi ?hs) ?cuB ?cuF ?cuX ?cuN ?cuT ?cuk ?cud ?cuu ?_; (case cuF => k_asm); (case cuN => k_asm); (case hl => assumption); (case hm => k_mem); (case hi => l_ints); (case hs => first | assumption | omega); (case cuB => k_asm); (case cuX => k_asm); (case cuT => k_asm); (case cuk => first | exact rfl | assumption); (case cud => ktr_room); (case cuu => ktr_units); intro r9 ws9 n9 h9 tk9 I9 l9 F9 N9; (try simp only [LCg.Off1, and_true] at l9); (have hL' := IntsAre.length I9); (try simp only [len_create] at hL'); (try dsimp only))))

local macro_rules | `(tactic| walk_at "eval GeneratorExp") => `(tactic| (k_here; refine Halt.mk ?_))
local macro_rules | `(tactic| walk_at "call builtin:any") => `(tactic| (k_here; refine Halt.mk ?_))
local macro_rules | `(tactic| walk_at "call builtin:all") => `(tactic| (k_here; refine Halt.mk ?_))

local macro_rules | `(tactic| walk_at "eval Name") => `(tactic| (k_here; (with_reducible refine PyProof.Rows.inGen ?_); (rename Fr _ _ _ _ => kF); k_dflt (refine' gen_builtin kF ?k1 ?k2 ?k3 ?k4 ?k5 ?_; (case k1 => k_asm); (case k2 => k_asm); (case k3 => k_is); (case k4 => boot_by_name); (case k5 => decide); k_whole)))
local macro_rules | `(tactic| walk_at "eval Name") => `(tactic| (k_here; (with_reducible refine PyProof.Rows.inGen ?_); (rename Fr _ _ _ _ => kF); k_dflt (refine' gen_global kF ?k1 ?k2 ?k3 ?_; (case k1 => k_asm); (case k2 => k_asm); (case k3 => k_is); k_whole)))
local macro_rules | `(tactic| walk_at "eval Name") => `(tactic| (k_here; (with_reducible refine PyProof.Rows.inGen ?_); (rename Fr _ _ _ _ => kF); k_dflt (refine' ldVarG kF ?k1 ?_; (case k1 => assumption); k_whole)))
theorem or1 {k : Nat} (h : (k : Int) < 33) : Value.bool (decide ((k : Int) < 33)) = Value.bool (decide (k < 33) || decide (126 < k)) := by
  have h2 : k < 33 := by omega
  rw [decide_eq_true h, decide_eq_true h2]; rfl
theorem or2 {k : Nat} (h : ¬ (k : Int) < 33) : Value.bool (decide (126 < (k : Int))) = Value.bool (decide (k < 33) || decide (126 < k)) := by
  have h2 : ¬ k < 33 := by omega
  rw [decide_eq_false h2, Bool.false_or]
  by_cases h3 : 126 < k
  · rw [decide_eq_true h3, decide_eq_true (show (126 : Int) < (k : Int) by omega)]
  · rw [decide_eq_false h3, decide_eq_false (show ¬ (126 : Int) < (k : Int) by omega)]
def qIn (k : Nat) : Bool := !(Builtin.Str.occurrences (Str.ofString "qpzry9x8gf2tvdw0s3jn54khce6mua7l") ⟨#[k]⟩ 0 (Str.ofString "qpzry9x8gf2tvdw0s3jn54khce6mua7l").length 1).isEmpty
theorem lower_is {prog : Program} {w : World} {A : Around} {E : Value → Shared → Prop} {s : Shared} {x : Str} {t : Tok} {Q : Value → Shared → Prop} (e : Txt.lower x = x) (hfit : x.length ≤ 5592405) (h : Q (.str x s.toks) { s with toks := s.toks + 1 }) :
    wpAny (model prog w) A (call (.builtin "str.lower") [.str x t]) Q E s := SCL.lower hfit fun _ => by rw [e]; exact h
theorem rfind_is {prog : Program} {w : World} {A : Around} {E : Value → Shared → Prop} {s : Shared} {x y : Str} {t u : Tok} {r : Int} {Q : Value → Shared → Prop} (e : Txt.rfind x y = r) (h : Q (.int r s.toks) { s with toks := s.toks + 1 }) :
    wpAny (model prog w) A (call (.builtin "str.rfind") [.str x t, .str y u]) Q E s := SC.rfind (by rw [e]; exact h)
local macro_rules | `(tactic| walk_at "call builtin:str.lower") => `(tactic| (k_here; refine lower_is (by assumption) (by omega) ?_))
local macro_rules | `(tactic| walk_at "call builtin:str.rfind") => `(tactic| (k_here; refine rfind_is (by assumption) ?_))
theorem ne_same {prog : Program} {w : World} {A : Around} {E : Value → Shared → Prop} {s : Shared} {x : Str} {t u : Tok} {Q : Value → Shared → Prop} (h : Q (.bool false) s) : wpAny (model prog w) A (compareOp .NotEq (.str x t) (.str x u)) Q E s :=
  ne_str (by rw [bne_self_eq_false]; exact h)
local macro_rules | `(tactic| walk_at "compareOp NotEq str str") => `(tactic| (k_here; with_reducible refine ne_same ?_))
local macro_rules | `(tactic| walk_at "exec Assign cons ListComp") => `(tactic| (k_here; refine Halt.mk ?_))
local macro_rules | `(tactic| walk_at "call ref") => `(tactic| (k_here; k_dflt (refine' Con.use (verify_c ?hl ?hm ?hi ?hs) ?cuB ?cuF ?cuX ?cuN ?cuT ?cuk ?cud ?cuu ?_; (case cuF => k_asm); (case cuN => k_asm); (case hl => assumption); (case hm => k_mem); (case hi => l_ints); (case hs => first | assumption | omega); (case cuB => k_asm); (case cuX => k_asm); (case cuT => k_asm); (case cuk => first | exact rfl | assumption); (case cud => ktr_room); (case cuu => ktr_units); intro h9 tk9 F9 N9; (try dsimp only))))
/-- the code table of bech32_decode: empty, or both blocks' codes -/
def TabOk (ps : Array Value) : Prop := ps = #[] ∨ ∃ c1 c2 : Addr, ps = #[rawInt 24, rawInt 11, .ref c1, rawInt 30, rawInt 15, .ref c2]
theorem tab1 {ps : Array Value} (h : TabOk ps) : TriplesOk ps.toList ∧ (codeAmong ⟨24, 11, 24, 54⟩ ps.toList = none ∨ ∃ c' : Addr, codeAmong ⟨24, 11, 24, 54⟩ ps.toList = some (.ref c')) := by
  rcases h with rfl | ⟨c1, c2, rfl⟩
  · exact ⟨trivial, .inl rfl⟩
  · exact ⟨trivial, .inr ⟨c1, rfl⟩⟩
theorem tab2 {ps ps5 : Array Value} (h : TabOk ps) (n : TabNext ⟨24, 11, 24, 54⟩ ps ps5) : (∃ c1 : Addr, ps5 = #[rawInt 24, rawInt 11, .ref c1]) ∨ ∃ c1 c2 : Addr, ps5 = #[rawInt 24, rawInt 11, .ref c1, rawInt 30, rawInt 15, .ref c2] := by
  rcases h with rfl | ⟨c1, c2, rfl⟩
  · rcases n with ⟨_, c', rfl⟩ | ⟨⟨c', e⟩, rfl⟩
    · exact .inl ⟨c', rfl⟩
    · cases e
  · rcases n with ⟨e, c', rfl⟩ | ⟨⟨c', e⟩, rfl⟩
    · cases e
    · exact .inr ⟨c1, c2, rfl⟩
theorem tab3 {ps ps5 : Array Value} (h : TabOk ps) (n : TabNext ⟨24, 11, 24, 54⟩ ps ps5) : TriplesOk ps5.toList ∧ (codeAmong ⟨30, 15, 30, 53⟩ ps5.toList = none ∨ ∃ c' : Addr, codeAmong ⟨30, 15, 30, 53⟩ ps5.toList = some (.ref c')) := by
  rcases tab2 h n with ⟨c1, rfl⟩ | ⟨c1, c2, rfl⟩
  · exact ⟨trivial, .inl rfl⟩
  · exact ⟨trivial, .inr ⟨c2, rfl⟩⟩
theorem tab4 {ps ps5 ps9 : Array Value} (h : TabOk ps) (n : TabNext ⟨24, 11, 24, 54⟩ ps ps5) (n' : TabNext ⟨30, 15, 30, 53⟩ ps5 ps9) : TabOk ps9 := by
  rcases tab2 h n with ⟨c1, rfl⟩ | ⟨c1, c2, rfl⟩
  · rcases n' with ⟨_, c', rfl⟩ | ⟨⟨c', e⟩, rfl⟩
    · exact .inr ⟨c1, c', rfl⟩
    · cases e
  · rcases n' with ⟨e, c', rfl⟩ | ⟨⟨c', e⟩, rfl⟩
    · cases e
    · exact .inr ⟨c1, c2, rfl⟩

/-- what bech32_decode hands back -/
def RetDec (rest : Led) (f : Str) (vs : List Int) (h₀ : Heap) (L : Addr) (m : Str → Option Value) (s : Shared) (Q : Value → Shared → Prop) : Prop :=
  CodeHd h₀ 47 45 ∧ AllBare s.gens ∧
  (polyI (expandI f ++ vs) = 1 → ∀ (D l : Addr) (t : Tok) (ws : List Value) (n n' : Nat) (ps' : Array Value) (s' : Shared), TabOk ps' → IntsAre ws (vs.take (vs.length - 6)) → (l < D ∧ 45 < D ∧ AllLt D rest) → (45 < l ∧ AllLt l rest) →
    Fr h₀ L s'.heap m → News h₀ L s'.heap ((D, ({ cls := .type "tuple", data := .seq #[.str f t, .ref l] n } : Obj)) :: (l, W.listOf ws.toArray n') :: (45, tabObj ps') :: rest) → AllBare s'.gens → s'.os = s.os → Q (.ref D) s') ∧
  (polyI (expandI f ++ vs) ≠ 1 → ∀ (D : Addr) (n : Nat) (ps' : Array Value) (s' : Shared), TabOk ps' → (45 < D ∧ AllLt D rest) →
    Fr h₀ L s'.heap m → News h₀ L s'.heap ((D, ({ cls := .type "tuple", data := .seq #[.none, .none] n } : Obj)) :: (45, tabObj ps') :: rest) → AllBare s'.gens → s'.os = s.os → Q (.ref D) s')

theorem news_sub {h₀ h : Heap} {L : Addr} {a b : Led} (N : News h₀ L h a) (hs : ∀ p ∈ b, p ∈ a) : News h₀ L h b := fun p hp => N p (hs p hp)
def findI (d : Str) : List Int := d.cps.toList.map fun k => Txt.find (Str.ofString "qpzry9x8gf2tvdw0s3jn54khce6mua7l") ⟨#[k]⟩

theorem decode_c {w : World} {mean : ExcName → Option Value} {mg mb : Str → Option Value} {rest : Led} {b f d : Str} {p : Int} {t : Tok} {ps : Array Value} (hb : b.length ≤ 70) (hany : b.cps.toList.any (fun k => decide (k < 33) || decide (126 < k)) = false)
    (hlow : Txt.lower b = b) (hrf : Txt.rfind b (Str.ofString "1") = p) (hp : 1 ≤ p ∧ p ≤ 6) (hlen : p + 7 ≤ b.length) (hs1 : Txt.slice b (some (p + 1)) none = d) (hs2 : Txt.slice b none (some p) = f)
    (hf : f.length ≤ 6) (hall : d.cps.toList.all qIn = true) (hdl : d.length ≤ 60)
    (hrest : ∀ p ∈ rest, p.1 ≠ 45) (htab : TabOk ps) :
    Con 2 w mean mg mb 48 [.str b t] ((45, tabObj ps) :: rest) (RetDec rest f (findI d)) := by
  unfold Con
  k_fill
  intro dp un gd cn cs a ccd cl outer A₀ base h₀ L m s Q E B F X N T hk hd hu hret
  obtain ⟨hC, hG, hret1, hret2⟩ := hret
  have ht := (tab1 htab).1
  have hps1 := (tab1 htab).2
  subst hs1
  subst hs2
  w_top off
  w_strict (
    refine wpAny_call ?_
    k_dflt cell_enter
    k_steps
    refine Halt.go ?_
    rename Fr _ _ _ _ => F1
    rename News _ _ _ _ => N1
    rename Top _ _ _ _ _ _ => T1
    have hC1 := hC.keeps (Fr.keep (by assumption : Fr h₀ L _ m))
    rename Frag.In _ _ => X1
    refine genexp_S (q := fun k => decide (k < 33) || decide (126 < k)) F1 T1 hC1 rfl rfl ht hps1 hrest rfl rfl (by with_unfolding_all rfl) (by decide) (by rfl) (by rfl) (by rfl) (by ktr_room) ?_ (by intro _; with_unfolding_all rfl)
    walk1
    refine ⟨b, t, rfl, F1, N1, hG, ?_, ?_⟩
    · intro c' C A' E' k tk u m₂ hA hD hU hk' FE hm
      clear F1 N1
      k_steps
      all_goals first
        | exact ⟨_, _, rfl, fun _ _ e => e⟩
        | exact or1 (by first | assumption | omega)
        | exact or2 (by first | assumption | omega)
    · intro a5 K5 s5 ps5 hn5 F5 N5 G5 hos5 hLK5 hK5 X5
      clear F1 N1
      k_steps
      refine Halt.go ?_
      refine any_txt F5 N5 G5 X5 hLK5 hK5 fun s6 F6 N6 G6 hos6 => ?_
      rw [hany]
      clear F5 N5 G5 X5
      k_steps
      refine Halt.go ?_
      rename Fr _ _ _ _ => F7
      rename News _ _ _ _ => N7
      rename Top _ _ _ _ _ _ => T7
      rename Frag.In _ _ => X7
      refine genexp_S (pos := ⟨30, 15, 30, 53⟩) (q := qIn) F7 T7 hC1 rfl rfl (tab3 htab hn5).1 (tab3 htab hn5).2 hrest rfl rfl (by with_unfolding_all rfl) (by decide) (by rfl) (by rfl) (by rfl) (by ktr_room) ?_ (by intro _; with_unfolding_all rfl)
      k_steps
      rename Fr _ _ _ _ => F8
      rename News _ _ _ _ => N8
      refine ⟨_, _, rfl, F8, N8, G6, ?_, ?_⟩
      · intro c' C A' E' k tk u m₂ hA hD hU hk' FE hm
        (try clear F8 N8)
        k_steps
        all_goals first
          | exact ⟨_, _, rfl, fun _ _ e => e⟩
          | rfl
      · intro a9 K9 s9 ps9 hn9 F9 N9 G9 hos9 hLK9 hK9 X9
        (try clear F8 N8)
        k_steps
        refine Halt.go ?_
        refine all_txt F9 N9 G9 X9 hLK9 hK9 fun s10 F10 N10 G10 hos10 => ?_
        rw [hall]
        (try clear F9 N9 G9 X9)
        k_steps
        refine Halt.go ?_
        rename Fr _ _ _ _ => F11
        k_dflt (refine' Assign_ListComp_S F11 ?a1 ?a2 ?a3 ?a4 ?a5 ?a6 ?a7 ?a8 ?a9 ?_; (case a1 => rfl); (case a2 => with_unfolding_all rfl); (case a3 => with_unfolding_all rfl); (case a4 => decide); (case a5 => rfl); (case a6 => decide); (case a7 => rfl); (case a8 => rfl); (case a9 => rfl))
        k_steps
        rename News _ _ _ _ => N11
        rename Fr _ _ _ _ => F12
        refine ⟨_, _, _, rfl, rfl, F12, N11, ?_, fun s₂ hs₂ => ?_⟩
        · rw [PySem.sizeLine_eq]; show (Txt.slice b (some (p + 1)) none).length ≤ _; omega
        obtain ⟨g, rfl⟩ := hs₂
        refine cs_rest (fun k => Txt.find (Str.ofString "qpzry9x8gf2tvdw0s3jn54khce6mua7l") ⟨#[k]⟩) ?_ ?_
        · intro k t I oI C oC D m₂ ys h tk E' hk hC hx F2 N2 off ne
          clear F12 N11
          k_steps
          all_goals exact ⟨rfl, _, rfl⟩
        · intro ys hy
          have hyl2 := hy.length
          have hyl : ys.length = (Txt.slice b (some (p + 1)) none).length := by rw [hy.length, List.length_map]; rfl
          k_steps
          all_goals (rename (_ < _ ∧ _) => o9)
          all_goals (rename News h₀ L _ _ => kN9)
          all_goals (rename Fr h₀ L _ _ => kF9)
          · rename (_ < _ ∧ 45 < _ ∧ _) => o8
            have hp1 : polyI (expandI (Txt.slice b none (some p)) ++ findI (Txt.slice b (some (p + 1)) none)) = 1 := by assumption
            refine' hret1 hp1 _ _ _ _ 0 0 ps9 _ (tab4 htab hn5 hn9) (by assumption) ⟨o9.1, o9.2.2.1, o9.2.2.2⟩ o8.2 kF9 ?nn G10 ?oo
            case oo =>
              show s10.os = s.os
              rw [hos10, hos9]
              show s6.os = s.os
              rw [hos6, hos5]
            case nn =>
              refine news_sub kN9 fun p hp => ?_
              rcases List.mem_cons.mp hp with rfl | hp
              · exact List.mem_cons_self
              · rcases List.mem_cons.mp hp with rfl | hp
                · exact List.mem_cons_of_mem _ List.mem_cons_self
                · exact List.mem_cons_of_mem _ (List.mem_cons_of_mem _ (List.mem_cons_of_mem _ hp))
          · refine hret2 (by assumption) _ 0 ps9 _ (tab4 htab hn5 hn9) o9.2 kF9 ?_ G10 ?_
            · refine news_sub kN9 fun p hp => ?_
              rcases List.mem_cons.mp hp with rfl | hp
              · exact List.mem_cons_self
              · exact List.mem_cons_of_mem _ (List.mem_cons_of_mem _ hp)
            · show s10.os = s.os
              rw [hos10, hos9]
              show s6.os = s.os
              rw [hos6, hos5])
end Mine
end
/-! part S1 -/
section
open PySem PySem.W PyProof.Rows
set_option Elab.async false
set_option maxRecDepth 100000
set_option maxHeartbeats 4000000
set_option linter.unusedSimpArgs false
set_option linter.unusedVariables false
namespace Mine
def chC (v : Int) : Nat := CH.getD v.toNat 0
/-- a front as the law builds it -/
def FrontOk (f : Str) : Prop := 1 ≤ f.length ∧ f.length ≤ 6 ∧ ∀ c ∈ f.cps.toList, 33 ≤ c ∧ c ≤ 126 ∧ ¬ (65 ≤ c ∧ c ≤ 90)
def FivesOk (vs : List Int) : Prop := ∀ v ∈ vs, 0 ≤ v ∧ v < 32

theorem str_ext {a b : Str} (h : a.cps.toList = b.cps.toList) : a = b := Str.ext' (Array.toList_inj.mp h)
theorem join_codes : ∀ l : List Str, (Str.join (Str.ofString "") l).cps.toList = l.flatMap (·.cps.toList)
  | [] => rfl
  | [x] => by simp [Str.join]
  | x :: y :: r => by
    have ih := join_codes (y :: r)
    show (x ++ Str.ofString "" ++ Str.join (Str.ofString "") (y :: r)).cps.toList = _
    rw [Str.cps_append, Array.toList_append, Str.cps_append, Array.toList_append, ih]
    show x.cps.toList ++ [] ++ _ = _
    rw [List.append_nil]
    rfl
theorem join_ch (vs : List Int) : (Txt.join (Str.ofString "") (vs.map chS)).cps.toList = vs.map chC := by
  unfold Txt.join
  rw [StrLaws.glued_eq_join, join_codes]
  induction vs with
  | nil => rfl
  | cons v r ih => rw [List.map_cons, List.flatMap_cons, ih]; rfl
theorem text_codes (f : Str) (vs : List Int) : (textS f vs).cps.toList = f.cps.toList ++ 49 :: vs.map chC := by
  unfold textS
  rw [Str.cps_append, Array.toList_append, Str.cps_append, Array.toList_append, join_ch]
  show f.cps.toList ++ [49] ++ _ = _
  rw [List.append_assoc]
  rfl
theorem len_codes (x : Str) : x.length = x.cps.toList.length := by rw [Array.length_toList]; rfl
theorem len_text (f : Str) (vs : List Int) : (textS f vs).length = f.length + 1 + vs.length := by
  rw [len_codes, text_codes, List.length_append, List.length_cons, List.length_map, ← len_codes]; omega
theorem chC_nat : ∀ k : Fin 32, 33 ≤ chC ((k.val : Nat) : Int) ∧ chC ((k.val : Nat) : Int) ≤ 126 ∧ ¬ (65 ≤ chC ((k.val : Nat) : Int) ∧ chC ((k.val : Nat) : Int) ≤ 90) ∧ chC ((k.val : Nat) : Int) ≠ 49 ∧ qIn (chC ((k.val : Nat) : Int)) = true ∧
    Txt.find (Str.ofString "qpzry9x8gf2tvdw0s3jn54khce6mua7l") ⟨#[chC ((k.val : Nat) : Int)]⟩ = ((k.val : Nat) : Int) := by decide +kernel
theorem chC_of {v : Int} (h : 0 ≤ v ∧ v < 32) : 33 ≤ chC v ∧ chC v ≤ 126 ∧ ¬ (65 ≤ chC v ∧ chC v ≤ 90) ∧ chC v ≠ 49 ∧ qIn (chC v) = true ∧ Txt.find (Str.ofString "qpzry9x8gf2tvdw0s3jn54khce6mua7l") ⟨#[chC v]⟩ = v := by
  have k := chC_nat ⟨v.toNat, by omega⟩
  have e : ((v.toNat : Nat) : Int) = v := by omega
  simpa only [e] using k
theorem text_sign {f : Str} {vs : List Int} (hf : FrontOk f) (hv : FivesOk vs) : ∀ c ∈ (textS f vs).cps.toList, 33 ≤ c ∧ c ≤ 126 ∧ ¬ (65 ≤ c ∧ c ≤ 90) := by
  intro c hc
  rw [text_codes] at hc
  rcases List.mem_append.mp hc with hc | hc
  · exact hf.2.2 c hc
  · rcases List.mem_cons.mp hc with rfl | hc
    · omega
    · obtain ⟨v, hm, rfl⟩ := List.mem_map.mp hc
      have := chC_of (hv v hm)
      exact ⟨this.1, this.2.1, this.2.2.1⟩
theorem text_any {f : Str} {vs : List Int} (hf : FrontOk f) (hv : FivesOk vs) : (textS f vs).cps.toList.any (fun k => decide (k < 33) || decide (126 < k)) = false := by
  rw [List.any_eq_false]
  intro c hc
  have := text_sign hf hv c hc
  simp only [Bool.or_eq_true, decide_eq_true_eq]
  omega
theorem text_lower {f : Str} {vs : List Int} (hf : FrontOk f) (hv : FivesOk vs) : Txt.lower (textS f vs) = textS f vs := by
  rw [lower_ascii fun c hc => by have := text_sign hf hv c hc; omega]
  refine str_ext ?_
  show ((textS f vs).cps.map lo1).toList = _
  rw [Array.toList_map]
  refine (List.map_congr_left (g := _root_.id) fun c hc => ?_).trans (List.map_id _)
  have := (text_sign hf hv c hc).2.2
  unfold lo1
  rw [if_neg this]
  rfl
theorem at_one (x : Str) (i : Nat) : StrLaws.At x (Str.ofString "1") x.length i ↔ x.cps.toList[i]? = some 49 := by
  unfold StrLaws.At
  rw [StrLaws.subAt_eq]
  have h1 : (Str.ofString "1").length = 1 := by decide
  have h2 : (Str.ofString "1").cps.toList = [49] := by decide
  rw [h1, h2, len_codes]
  constructor
  · rintro ⟨ha, hb⟩
    have hlt : i < x.cps.toList.length := by omega
    have e := eq_of_beq hb
    rw [List.drop_eq_getElem_cons hlt, List.take_succ_cons, List.take_zero] at e
    rw [List.getElem?_eq_getElem hlt]
    exact congrArg some (List.cons.inj e).1
  · intro h
    obtain ⟨hlt, e⟩ := List.getElem?_eq_some_iff.mp h
    refine ⟨by omega, ?_⟩
    rw [List.drop_eq_getElem_cons hlt, List.take_succ_cons, List.take_zero, e]
    rfl
theorem text_rfind {f : Str} {vs : List Int} (hv : FivesOk vs) : Txt.rfind (textS f vs) (Str.ofString "1") = (f.length : Int) := by
  have hat : (textS f vs).cps.toList[f.length]? = some 49 := by
    rw [text_codes, List.getElem?_append_right (by rw [← len_codes]; exact Nat.le_refl _), ← len_codes, Nat.sub_self]; rfl
  have hno : ∀ k, f.length < k → (textS f vs).cps.toList[k]? ≠ some 49 := by
    intro k hk e
    rw [text_codes, List.getElem?_append_right (by rw [← len_codes]; omega), ← len_codes] at e
    obtain ⟨j, hj⟩ : ∃ j, k - f.length = j + 1 := ⟨k - f.length - 1, by omega⟩
    rw [hj, List.getElem?_cons_succ] at e
    obtain ⟨v, hm, ev⟩ := List.mem_map.mp (List.mem_of_getElem? e)
    exact (chC_of (hv v hm)).2.2.2.1 ev
  rcases rfind_whole (textS f vs) (Str.ofString "1") with ⟨_, hn⟩ | ⟨i, e, ha, hl⟩
  · exact absurd ((at_one _ _).mpr hat) (hn _)
  · rw [e]
    have ha' := (at_one _ _).mp ha
    have : i = f.length := by
      rcases Nat.lt_trichotomy i f.length with h | h | h
      · exact absurd ((at_one _ _).mpr hat) (hl _ h)
      · exact h
      · exact absurd ha' (hno i h)
    rw [this]
theorem text_slice_to {f : Str} {vs : List Int} : Txt.slice (textS f vs) none (some (f.length : Int)) = f := by
  have hl := text_codes f vs
  have h := eq_of_beq (slice_closes_to (x := textS f vs) (j := (f.length : Int)) ⟨by omega, by rw [hl, List.length_append, ← len_codes]; omega⟩)
  rw [h]
  refine str_ext ?_
  show ((List.drop (0 : Int).toNat _).take ((f.length : Int) - 0).toNat) = _
  rw [hl, show (0 : Int).toNat = 0 from rfl, List.drop_zero, show ((f.length : Int) - 0).toNat = f.cps.toList.length by rw [← len_codes]; omega, List.take_left']
  rfl
theorem text_slice_from {f : Str} {vs : List Int} : (Txt.slice (textS f vs) (some ((f.length : Int) + 1)) none).cps.toList = vs.map chC := by
  have hl := text_codes f vs
  have h := eq_of_beq (slice_closes_from (x := textS f vs) (i := (f.length : Int) + 1) ⟨by omega, by rw [hl, List.length_append, ← len_codes, List.length_cons]; omega⟩)
  rw [h]
  show List.take _ (List.drop ((f.length : Int) + 1).toNat (textS f vs).cps.toList) = _
  have e : List.drop ((f.length : Int) + 1).toNat (textS f vs).cps.toList = vs.map chC := by
    rw [hl, show ((f.length : Int) + 1).toNat = f.cps.toList.length + 1 by rw [← len_codes]; omega, List.drop_append, List.drop_of_length_le (by omega), Nat.add_sub_cancel_left]
    rfl
  rw [e]
  have hlen : (textS f vs).cps.toList.length = f.length + 1 + vs.length := by rw [← len_codes, len_text]
  rw [List.take_of_length_le]
  rw [List.length_map]
  omega
theorem find_fives {d : Str} {vs : List Int} (hv : FivesOk vs) (hd : d.cps.toList = vs.map chC) : findI d = vs := by
  unfold findI
  rw [hd, List.map_map]
  refine (List.map_congr_left (g := _root_.id) fun v hm => ?_).trans (List.map_id _)
  exact (chC_of (hv v hm)).2.2.2.2.2
theorem all_fives {d : Str} {vs : List Int} (hv : FivesOk vs) (hd : d.cps.toList = vs.map chC) : d.cps.toList.all qIn = true := by
  rw [hd, List.all_eq_true]
  intro c hc
  obtain ⟨v, hm, rfl⟩ := List.mem_map.mp hc
  exact (chC_of (hv v hm)).2.2.2.2.1
end Mine
end
/-! part S2 -/
section
open PySem PySem.W PyProof.Rows
set_option Elab.async false
set_option maxRecDepth 100000
set_option maxHeartbeats 4000000
set_option linter.unusedSimpArgs false
set_option linter.unusedVariables false
namespace Mine
theorem decode_t {w : World} {mean : ExcName → Option Value} {mg mb : Str → Option Value} {rest : Led} {f : Str} {t : Tok} {ps : Array Value} {vs : List Int} (hf : FrontOk f) (hv : FivesOk vs) (h6 : 6 ≤ vs.length) (hs : vs.length ≤ 60)
    (hrest : ∀ p ∈ rest, p.1 ≠ 45) (htab : TabOk ps) :
    Con 2 w mean mg mb 48 [.str (textS f vs) t] ((45, tabObj ps) :: rest) (RetDec rest f vs) := by
  have hd := text_slice_from (f := f) (vs := vs)
  have hdl : (Txt.slice (textS f vs) (some ((f.length : Int) + 1)) none).length ≤ 60 := by
    rw [len_codes, hd, List.length_map]; exact hs
  have h1 := hf.1
  have h2 := hf.2.1
  have C := decode_c (w := w) (mean := mean) (mg := mg) (mb := mb) (rest := rest) (b := textS f vs) (f := f) (d := Txt.slice (textS f vs) (some ((f.length : Int) + 1)) none) (p := (f.length : Int)) (t := t) (ps := ps)
    (by rw [len_text]; omega) (text_any hf hv) (text_lower hf hv) (text_rfind hv) ⟨by omega, by omega⟩ (by rw [len_text]; omega) rfl text_slice_to h2 (all_fives hv hd) hdl hrest htab
  rw [find_fives hv hd] at C
  exact C
end Mine
end
/-! part S3 -/
section
open PySem PySem.W PyProof.Rows
set_option Elab.async false
set_option maxRecDepth 100000
set_option maxHeartbeats 4000000
set_option linter.unusedSimpArgs false
set_option linter.unusedVariables false
namespace Mine
theorem xor5_nat : ∀ x y : Fin 32, 0 ≤ Builtin.bitXor ((x.val : Nat) : Int) ((y.val : Nat) : Int) ∧ Builtin.bitXor ((x.val : Nat) : Int) ((y.val : Nat) : Int) < 32 := by decide +kernel
theorem xor5 {x y : Int} (hx : 0 ≤ x ∧ x < 32) (hy : 0 ≤ y ∧ y < 32) : 0 ≤ Builtin.bitXor x y ∧ Builtin.bitXor x y < 32 := by
  have h := xor5_nat ⟨x.toNat, by omega⟩ ⟨y.toNat, by omega⟩
  have e1 : ((x.toNat : Nat) : Int) = x := by omega
  have e2 : ((y.toNat : Nat) : Int) = y := by omega
  simpa only [e1, e2] using h
theorem five_at {vs : List Int} (h : FivesOk vs) (i : Nat) : 0 ≤ vs.getD i 0 ∧ vs.getD i 0 < 32 := by
  rw [List.getD_eq_getElem?_getD]
  cases e : vs[i]? with
  | none => exact ⟨by decide, by decide⟩
  | some v => exact h v (List.mem_of_getElem? e)
theorem over_ok {vs xs : List Int} {st : Int} (hv : FivesOk vs) (hx : FivesOk xs) : FivesOk (overI vs st xs) := by
  intro v h
  rcases List.mem_append.mp h with h | h
  · rcases List.mem_append.mp h with h | h
    · exact hv v (List.mem_of_mem_take h)
    · obtain ⟨k, _, rfl⟩ := List.mem_map.mp h
      exact xor5 (five_at hv _) (five_at hx _)
  · exact hv v (List.mem_of_mem_drop h)
theorem len_over {vs xs : List Int} {st : Int} (h0 : 0 ≤ st) (h1 : st + 6 ≤ vs.length) : (overI vs st xs).length = vs.length := by
  unfold overI
  rw [List.length_append, List.length_append, List.length_take, List.length_map, rangeKs_length, List.length_drop]
  omega
section
variable {prog : Program} {w : World} {A : Around} {E : Value → Shared → Prop} {s : Shared} {Q : Value → Shared → Prop}
theorem ne_ints_same {a b : Addr} {vs us : List Value} {ns ms : List Int} (hl : s.heap.IsList a vs.toArray) (hi : IntsAre vs ns) (hl' : s.heap.IsList b us.toArray) (hi' : IntsAre us ms) (hu : A.units + 64 < cLine) (e : ns = ms)
    (h : Q (.bool false) s) : wpAny (model prog w) A (compareOp .NotEq (.ref a) (.ref b)) Q E s := ne_intsK hl hi hl' hi' hu (by rw [decide_eq_true e]; exact h)
theorem eq_ints_cases {a b : Addr} {vs us : List Value} {ns ms : List Int} (hl : s.heap.IsList a vs.toArray) (hi : IntsAre vs ns) (hl' : s.heap.IsList b us.toArray) (hi' : IntsAre us ms) (hu : A.units + 64 < cLine)
    (h1 : ns = ms → Q (.bool true) s) (h2 : ns ≠ ms → Q (.bool false) s) : wpAny (model prog w) A (compareOp .Eq (.ref a) (.ref b)) Q E s := eq_intsK hl hi hl' hi' hu (by
  by_cases e : ns = ms
  · rw [decide_eq_true e]; exact h1 e
  · rw [decide_eq_false e]; exact h2 e)
theorem not_in_ints {l : Addr} {vs : List Value} {ns : List Int} {k : Int} {t : Tok} (hl : s.heap.IsList l vs.toArray) (hi : IntsAre vs ns) (hk : ∀ v ∈ ns, v ≠ k)
    (h : Q (.bool false) s) : wpAny (model prog w) A (compareOp .In (.int k t) (.ref l)) Q E s :=
  in_list_ints hl hi (by
    rw [show ns.any (· == k) = false from List.any_eq_false.mpr fun v hv => by simpa using hk v hv]; exact h)
end
end Mine
end
/-! part LA0 -/
section
open PySem PySem.W PyProof.Rows
set_option Elab.async false
set_option maxRecDepth 100000
set_option maxHeartbeats 8000000
set_option linter.unusedSimpArgs false
set_option linter.unusedVariables false
namespace Mine
def lawFn : Stmt := (PySem.Challenge.pw_fw0004_01.main.body.getLast?).getD (.Pass ⟨0, 0, 0, 0⟩)
def lawBody : List Stmt := match lawFn with
  | .FunctionDef _ _ b _ _ _ _ _ _ _ => b
  | _ => []
def lawScope : Scope := match lawFn with
  | .FunctionDef _ _ _ _ _ _ s _ _ _ => s
  | _ => { kind := .function, names := [], isGenerator := false, isCoroutine := false, more := [] }
abbrev lawEnv (L fa : Addr) (cd : Value) : Env := envOfC (Str.ofString "law") lawScope L fa cd

/-- the law from its k-th statement on, ps its names, news its objects -/
def LawGo (w : World) (mean : ExcName → Option Value) (mg mb : Str → Option Value) (k : Nat) (h₀ : Heap) (L fa : Addr) (cd : Value) (ps : List (Str × Value)) (news : Led) : Prop :=
  ∀ (s : Shared) (Q : Flow → Shared → Prop) (E : Value → Shared → Prop),
    Below callerA h₀ [] h₀ → (Mine.hd.heap_39 w.params).In h₀ → Top topProg looseG mean mg mb h₀ → CodeHd h₀ 47 45 → 45 < L →
    Fr h₀ L s.heap (kstB (fun _ => none) ps) → News h₀ L s.heap news → AllBare s.gens →
    (∀ (s' : Shared) (m' : Str → Option Value) (tb : Array Value), Fr h₀ L s'.heap m' → News h₀ L s'.heap [(45, tabObj tb)] → AllBare s'.gens → s'.os = s.os → Q (.ret (.bool true)) s') →
    wpAny (model PySem.Challenge.rw_fw0004_01.row.prog w) (callerA.deeper (lawEnv L fa cd)) (execs (lawBody.drop k) (lawEnv L fa cd)) Q E s
theorem news_ne {h₀ h : Heap} {L a b : Addr} {o1 o2 : Obj} {news : Led} (N : News h₀ L h news) (h1 : (a, o1) ∈ news) (h2 : (b, o2) ∈ news) (ho : o1.cls ≠ o2.cls) : a ≠ b := fun e => by
  have e1 := (N _ h1).1
  have e2 := (N _ h2).1
  subst e
  rw [e1] at e2
  exact ho (congrArg (·.cls) (Option.some.inj e2))
end Mine
end
/-! part S4 -/
section
open PySem PySem.W PySem.Calls PyProof.Rows PyProof.V PySem.Spec PySem.SeqAt
set_option Elab.async false
set_option maxRecDepth 100000
set_option maxHeartbeats 4000000
set_option linter.unusedSimpArgs false
set_option linter.unusedVariables false
namespace Mine
theorem strOk_front {f : Str} (hf : FrontOk f) : PyData.strOk f = true := by
  unfold PyData.strOk
  rw [← Array.all_toList, List.all_eq_true]
  intro c hc
  have := hf.2.2 c hc
  exact decide_eq_true (by omega)
abbrev pairO (f : Str) (t : Tok) (l : Addr) (n : Nat) : Obj := { cls := .type "tuple", data := .seq #[.str f t, .ref l] n }
abbrev noneO (n : Nat) : Obj := { cls := .type "tuple", data := .seq #[.none, .none] n }
theorem reads_pair {h : Heap} {D l : Addr} {f : Str} {t : Tok} {n : Nat} {ws : List Value} {xs : List Int} (hD : h.get? D = some (pairO f t l n)) (hl : h.IsList l ws.toArray) (hi : IntsAre ws xs) :
    Reads h (.ref D) (.tuple [.str f, .list (xs.map .int)]) [l] :=
  Reads.tuple hD rfl rfl (ReadsAll.cons (as := []) (Reads.str f t) (ReadsAll.cons (as := [l]) (reads_of_ints hl hi) ReadsAll.nil))
theorem reads_nones {h : Heap} {D : Addr} {n : Nat} (hD : h.get? D = some (noneO n)) : Reads h (.ref D) (.tuple [.none, .none]) [] :=
  Reads.tuple hD rfl rfl (ReadsAll.cons (as := []) Reads.none (ReadsAll.cons (as := []) Reads.none ReadsAll.nil))
theorem shaped_pair {f : Str} (hf : FrontOk f) (xs : List Int) : shaped (.tuple [.str f, .list (xs.map .int)]) = true := by
  have h1 := W.depthAll_ints xs
  have h2 : PyData.depth (.tuple [.str f, .list (xs.map .int)]) ≤ 64 := by simp only [PyData.depth, PyData.depthAll]; omega
  show (PyData.canLay0 _ && decide (PyData.depth _ ≤ 64)) = true
  rw [Bool.and_eq_true]
  refine ⟨?_, decide_eq_true h2⟩
  simp only [PyData.canLay0, PyData.canLayAll0, canLayAll0_ints, strOk_front hf, Bool.and_true]
theorem noMix_pair {f : Str} (xs ys : List Int) : noMix (.tuple [.str f, .list (xs.map .int)]) (.tuple [.str f, .list (ys.map .int)]) = true := by
  simp only [noMix, noMixAll, noMix_ints, Bool.and_true]
section
variable {prog : Program} {w : World} {A : Around} {E : Value → Shared → Prop} {s : Shared} {Q : Value → Shared → Prop}
theorem ne_pairs {D D' l l' : Addr} {f : Str} {t t' : Tok} {n n' : Nat} {ws ws' : List Value} {xs ys : List Int} (hf : FrontOk f) (e : xs = ys) (hD : s.heap.get? D = some (pairO f t l n)) (hl : s.heap.IsList l ws.toArray) (hi : IntsAre ws xs)
    (hD' : s.heap.get? D' = some (pairO f t' l' n')) (hl' : s.heap.IsList l' ws'.toArray) (hi' : IntsAre ws' ys) (hu : A.units + 64 < cLine) (h : Q (.bool false) s) :
    wpAny (model prog w) A (compareOp .NotEq (.ref D) (.ref D')) Q E s := by
  subst e
  exact ne_dataH_same (reads_pair hD hl hi) (reads_pair hD' hl' hi') (shaped_pair hf _) (shaped_pair hf _) hu (noMix_pair _ _) (by rw [Spec.same_self]; exact h)
theorem ne_nones {D D' : Addr} {n n' : Nat} (hD : s.heap.get? D = some (noneO n)) (hD' : s.heap.get? D' = some (noneO n')) (hu : A.units + 64 < cLine) (h : Q (.bool false) s) :
    wpAny (model prog w) A (compareOp .NotEq (.ref D) (.ref D')) Q E s :=
  ne_dataH_same (reads_nones hD) (reads_nones hD') (by decide) (by decide) hu (by rfl) h
theorem eq_nones {D D' : Addr} {n n' : Nat} (hD : s.heap.get? D = some (noneO n)) (hD' : s.heap.get? D' = some (noneO n')) (hu : A.units + 64 < cLine) (h : Q (.bool true) s) :
    wpAny (model prog w) A (compareOp .Eq (.ref D) (.ref D')) Q E s :=
  eq_dataH_same (reads_nones hD) (reads_nones hD') (by decide) (by decide) hu (by rfl) h
end
section
variable {h₀ h : Heap} {L : Addr} {a b c d e f g t : Addr × Obj}
theorem news_rot {rest : Led} (N : News h₀ L h (rest ++ [t])) : News h₀ L h (t :: rest) := news_sub N fun p hp => by
  rcases List.mem_cons.mp hp with rfl | hp
  · exact List.mem_append_right _ List.mem_cons_self
  · exact List.mem_append_left _ hp
theorem news_rot4 (N : News h₀ L h [a, b, c, d, t]) : News h₀ L h [t, a, b, c, d] := news_rot (rest := [a, b, c, d]) N
theorem news_rot5 (N : News h₀ L h [a, b, c, d, e, t]) : News h₀ L h [t, a, b, c, d, e] := news_rot (rest := [a, b, c, d, e]) N
theorem news_rot6 (N : News h₀ L h [a, b, c, d, e, f, t]) : News h₀ L h [t, a, b, c, d, e, f] := news_rot (rest := [a, b, c, d, e, f]) N
theorem news_rot7 (N : News h₀ L h [a, b, c, d, e, f, g, t]) : News h₀ L h [t, a, b, c, d, e, f, g] := news_rot (rest := [a, b, c, d, e, f, g]) N
end
def offTab (tb : Array Value) : Led → Prop
  | [] => True
  | p :: r => p.2.cls ≠ (tabObj tb).cls ∧ offTab tb r
theorem news_off {h₀ h : Heap} {L : Addr} {tb : Array Value} {rest : Led} (N : News h₀ L h ((45, tabObj tb) :: rest)) (H : offTab tb rest) : ∀ p ∈ rest, p.1 ≠ 45 := by
  induction rest with
  | nil => intro p hp; cases hp
  | cons q r ih =>
    have N1 : News h₀ L h ((45, tabObj tb) :: r) := news_sub N fun x hx => by
      rcases List.mem_cons.mp hx with hx | hx
      · rw [hx]; exact List.mem_cons_self
      · exact List.mem_cons_of_mem _ (List.mem_cons_of_mem _ hx)
    intro p hp
    rcases List.mem_cons.mp hp with hp | hp
    · rw [hp]
      obtain ⟨a, o⟩ := q
      exact news_ne N (o1 := o) (o2 := tabObj tb) (List.mem_cons_of_mem _ List.mem_cons_self) List.mem_cons_self H.1
    · exact ih N1 H.2 p hp
end Mine
end
/-! part M0 -/
section
open PySem PySem.W PyProof.Rows
set_option Elab.async false
namespace Mine
def leftI (f : Str) (vs : List Int) : Int := Builtin.bitXor (polyI (expandI f ++ vs)) 1
def sixI (k : Int) : List Int := [k.fdiv 33554432, (k.fdiv 1048576).fmod 32, (k.fdiv 32768).fmod 32, (k.fdiv 1024).fmod 32, (k.fdiv 32).fmod 32, k.fmod 32]
def stepB (six : List Int) : List Int := backI (six.getD 0 0) (six.getD 1 0) (six.getD 2 0) (six.getD 3 0) (six.getD 4 0) (six.getD 5 0)
def backN : Nat → List Int → List Int
  | 0, six => six
  | n + 1, six => stepB (backN n six)
end Mine
end
/-! part M1 -/
section
open PySem PySem.W PyProof.Rows
set_option Elab.async false
set_option maxRecDepth 100000
set_option maxHeartbeats 4000000
set_option linter.unusedSimpArgs false
set_option linter.unusedVariables false
namespace Mine
theorem add_split : ∀ (n a b : Nat), a < 2 ^ n → b < 2 ^ n → a + b = (a ^^^ b) + 2 * (a &&& b)
  | 0, a, b, ha, hb => by
    have h1 : a = 0 := by omega
    have h2 : b = 0 := by omega
    subst h1; subst h2; rfl
  | n + 1, a, b, ha, hb => by
    rw [Nat.pow_succ] at ha hb
    have ih := add_split n (a / 2) (b / 2) (by omega) (by omega)
    have x1 : (a ^^^ b) / 2 = a / 2 ^^^ b / 2 := Nat.xor_div_two_pow (n := 1)
    have x2 : (a ^^^ b) % 2 = a % 2 ^^^ b % 2 := Nat.xor_mod_two_pow (n := 1)
    have a1 : (a &&& b) / 2 = a / 2 &&& b / 2 := Nat.and_div_two_pow (n := 1)
    have a2 : (a &&& b) % 2 = a % 2 &&& b % 2 := Nat.and_mod_two_pow (n := 1)
    have hx := Nat.div_add_mod (a ^^^ b) 2
    have hy := Nat.div_add_mod (a &&& b) 2
    have ha2 := Nat.div_add_mod a 2
    have hb2 := Nat.div_add_mod b 2
    rw [x1, x2] at hx
    rw [a1, a2] at hy
    rcases Nat.mod_two_eq_zero_or_one a with p | p <;> rcases Nat.mod_two_eq_zero_or_one b with q | q <;> rw [p] at hx hy ha2 <;> rw [q] at hx hy hb2
    · have e1 : (0 ^^^ 0 : Nat) = 0 := rfl
      have e2 : (0 &&& 0 : Nat) = 0 := rfl
      rw [e1] at hx; rw [e2] at hy; omega
    · have e1 : (0 ^^^ 1 : Nat) = 1 := rfl
      have e2 : (0 &&& 1 : Nat) = 0 := rfl
      rw [e1] at hx; rw [e2] at hy; omega
    · have e1 : (1 ^^^ 0 : Nat) = 1 := rfl
      have e2 : (1 &&& 0 : Nat) = 0 := rfl
      rw [e1] at hx; rw [e2] at hy; omega
    · have e1 : (1 ^^^ 1 : Nat) = 0 := rfl
      have e2 : (1 &&& 1 : Nat) = 1 := rfl
      rw [e1] at hx; rw [e2] at hy; omega
theorem band (a b : Nat) : Builtin.bitAnd (a : Int) (b : Int) = ((a &&& b : Nat) : Int) := by
  rw [bitAnd_pp (Int.natCast_nonneg a) (Int.natCast_nonneg b), Int.toNat_natCast, Int.toNat_natCast]
theorem bxor (a b : Nat) : Builtin.bitXor (a : Int) (b : Int) = ((a ^^^ b : Nat) : Int) := by
  have h := add_split (a + b) a b (Nat.lt_of_lt_of_le Nat.lt_two_pow_self (Nat.pow_le_pow_right (by decide) (by omega))) (Nat.lt_of_lt_of_le Nat.lt_two_pow_self (Nat.pow_le_pow_right (by decide) (by omega)))
  rw [bitXor_and, band]
  omega
def gensN : List Nat := [996825010, 642813549, 513874426, 1027748829, 705979059]
def cG (t i : Nat) : Nat := if Builtin.bitAnd ((t : Int).fdiv (2 ^ i)) 1 = 0 then 0 else gensN.getD i 0
def GT (t : Nat) : Nat := cG t 0 ^^^ cG t 1 ^^^ cG t 2 ^^^ cG t 3 ^^^ cG t 4
def TN (c : Nat) : Nat := (c % 2 ^ 25 * 32) ^^^ GT (c / 2 ^ 25)
def stepN (c v : Nat) : Nat := TN c ^^^ v
def polyN (c : Nat) (vs : List Nat) : Nat := vs.foldl stepN c
theorem cG_step (t z i : Nat) (hi : i < 5) : (if Builtin.bitAnd ((t : Int).fdiv (2 ^ i)) 1 = 0 then Builtin.bitXor (z : Int) 0 else Builtin.bitXor (z : Int) (gens.getD i 0)) = ((z ^^^ cG t i : Nat) : Int) := by
  have hg : gens.getD i 0 = ((gensN.getD i 0 : Nat) : Int) := by
    have h : i = 0 ∨ i = 1 ∨ i = 2 ∨ i = 3 ∨ i = 4 := by omega
    rcases h with rfl | rfl | rfl | rfl | rfl <;> rfl
  unfold cG
  split
  · exact bxor z 0
  · rw [hg]; exact bxor z _
theorem polyIn_nat (t z : Nat) : polyIn (t : Int) (z : Int) (rangeKs 0 5) = ((z ^^^ GT t : Nat) : Int) := by
  have e : rangeKs 0 5 = [0, 1, 2, 3, 4] := rfl
  unfold polyIn
  rw [e]
  simp only [List.foldl_cons, List.foldl_nil]
  have h0 := cG_step t z 0 (by decide)
  have h1 := fun z => cG_step t z 1 (by decide)
  have h2 := fun z => cG_step t z 2 (by decide)
  have h3 := fun z => cG_step t z 3 (by decide)
  have h4 := fun z => cG_step t z 4 (by decide)
  simp only [show Int.toNat 0 = 0 from rfl, show Int.toNat 1 = 1 from rfl, show Int.toNat 2 = 2 from rfl, show Int.toNat 3 = 3 from rfl, show Int.toNat 4 = 4 from rfl, h0, h1, h2, h3, h4]
  unfold GT
  simp only [Nat.xor_assoc]
theorem polyTurn_nat (c v : Nat) : polyTurn (c : Int) (v : Int) = ((stepN c v : Nat) : Int) := by
  unfold polyTurn stepN TN
  have e1 : ((c : Nat) : Int).fdiv (2 ^ 25) = ((c / 2 ^ 25 : Nat) : Int) := (Int.ofNat_fdiv c (2 ^ 25)).symm
  have e2 : Builtin.bitAnd (c : Int) 33554431 = ((c % 2 ^ 25 : Nat) : Int) := by
    rw [show (33554431 : Int) = ((33554431 : Nat) : Int) from rfl, band, show (33554431 : Nat) = 2 ^ 25 - 1 from rfl, Nat.and_two_pow_sub_one_eq_mod]
  have e3 : ((c % 2 ^ 25 : Nat) : Int) * 2 ^ 5 = ((c % 2 ^ 25 * 32 : Nat) : Int) := by
    rw [Int.natCast_mul]; rfl
  rw [e1, e2, e3, bxor, polyIn_nat, Nat.xor_assoc, Nat.xor_comm v, ← Nat.xor_assoc]
theorem poly_nat (ns : List Nat) : polyI (ns.map fun n => ((n : Nat) : Int)) = ((polyN 1 ns : Nat) : Int) := by
  unfold polyI polyN
  have h : ∀ (ns : List Nat) (c : Nat), (ns.map fun n => ((n : Nat) : Int)).foldl polyTurn (c : Int) = ((ns.foldl stepN c : Nat) : Int) := by
    intro ns
    induction ns with
    | nil => intro c; rfl
    | cons v r ih =>
      intro c
      simp only [List.map_cons, List.foldl_cons]
      rw [polyTurn_nat, ih]
  exact h ns 1
theorem GT_lin_fin : ∀ x y : Fin 32, GT (x.val ^^^ y.val) = GT x.val ^^^ GT y.val := by decide +kernel
theorem GT_lt_fin : ∀ x : Fin 32, GT x.val < 2 ^ 30 := by decide +kernel
theorem GT_lin {x y : Nat} (hx : x < 32) (hy : y < 32) : GT (x ^^^ y) = GT x ^^^ GT y := GT_lin_fin ⟨x, hx⟩ ⟨y, hy⟩
theorem GT_lt {x : Nat} (hx : x < 32) : GT x < 2 ^ 30 := GT_lt_fin ⟨x, hx⟩
theorem TN_lt {c : Nat} (h : c < 2 ^ 30) : TN c < 2 ^ 30 := Nat.xor_lt_two_pow (by omega) (GT_lt (by omega))
theorem stepN_lt {c v : Nat} (h : c < 2 ^ 30) (hv : v < 32) : stepN c v < 2 ^ 30 := Nat.xor_lt_two_pow (TN_lt h) (by omega)
theorem polyN_lt : ∀ {vs : List Nat} {c : Nat}, c < 2 ^ 30 → (∀ v ∈ vs, v < 32) → polyN c vs < 2 ^ 30
  | [], c, h, _ => h
  | v :: r, c, h, hv => polyN_lt (vs := r) (stepN_lt h (hv v List.mem_cons_self)) fun x hx => hv x (List.mem_cons_of_mem _ hx)
theorem TN_lin {a b : Nat} (ha : a < 2 ^ 30) (hb : b < 2 ^ 30) : TN (a ^^^ b) = TN a ^^^ TN b := by
  unfold TN
  have e1 : ∀ x : Nat, x * 32 = x <<< 5 := fun x => (Nat.shiftLeft_eq x 5).symm
  rw [Nat.xor_mod_two_pow, Nat.xor_div_two_pow, GT_lin (by omega) (by omega), e1, e1, e1, Nat.shiftLeft_xor_distrib]
  generalize (a % 2 ^ 25) <<< 5 = p
  generalize (b % 2 ^ 25) <<< 5 = q
  generalize GT (a / 2 ^ 25) = r
  generalize GT (b / 2 ^ 25) = t
  rw [Nat.xor_assoc p q, ← Nat.xor_assoc q r t, Nat.xor_comm q r, Nat.xor_assoc r q t, ← Nat.xor_assoc p r]
theorem TN_zero : TN 0 = 0 := by decide +kernel
def xorL : List Nat → List Nat → List Nat
  | a :: r, b :: q => (a ^^^ b) :: xorL r q
  | _, _ => []
theorem poly_lin : ∀ {vs us : List Nat} {a b : Nat}, vs.length = us.length → a < 2 ^ 30 → b < 2 ^ 30 → (∀ v ∈ vs, v < 32) → (∀ v ∈ us, v < 32) → polyN (a ^^^ b) (xorL vs us) = polyN a vs ^^^ polyN b us
  | [], [], a, b, _, _, _, _, _ => rfl
  | v :: r, u :: q, a, b, hl, ha, hb, hv, hu => by
    show polyN (stepN (a ^^^ b) (v ^^^ u)) (xorL r q) = polyN (stepN a v) r ^^^ polyN (stepN b u) q
    have e : stepN (a ^^^ b) (v ^^^ u) = stepN a v ^^^ stepN b u := by
      unfold stepN
      rw [TN_lin ha hb]
      generalize TN a = p
      generalize TN b = s
      rw [Nat.xor_assoc p s, ← Nat.xor_assoc s v u, Nat.xor_comm s v, Nat.xor_assoc v s u, ← Nat.xor_assoc p v]
    rw [e]
    exact poly_lin (by simpa using hl) (stepN_lt ha (hv v List.mem_cons_self)) (stepN_lt hb (hu u List.mem_cons_self)) (fun x hx => hv x (List.mem_cons_of_mem _ hx)) (fun x hx => hu x (List.mem_cons_of_mem _ hx))
theorem poly_app (a b : List Nat) (c : Nat) : polyN c (a ++ b) = polyN (polyN c a) b := List.foldl_append
theorem poly_zeros : ∀ n : Nat, polyN 0 (List.replicate n 0) = 0
  | 0 => rfl
  | n + 1 => by
    show polyN (stepN 0 0) (List.replicate n 0) = 0
    have : stepN 0 0 = 0 := by unfold stepN; rw [TN_zero]; rfl
    rw [this]; exact poly_zeros n
end Mine
end
/-! part M2 -/
section
open PySem PySem.W PyProof.Rows
set_option Elab.async false
set_option maxRecDepth 100000
set_option maxHeartbeats 4000000
set_option linter.unusedSimpArgs false
set_option linter.unusedVariables false
namespace Mine
abbrev castL (l : List Nat) : List Int := l.map fun n => ((n : Nat) : Int)
theorem cast_of {vs : List Int} (h : FivesOk vs) : ∃ ns : List Nat, vs = castL ns ∧ (∀ n ∈ ns, n < 32) ∧ ns.length = vs.length := by
  refine ⟨vs.map Int.toNat, ?_, ?_, by simp⟩
  · unfold castL
    rw [List.map_map]
    have : ∀ v ∈ vs, ((fun n => ((n : Nat) : Int)) ∘ Int.toNat) v = v := fun v hv => by
      have := h v hv
      show ((v.toNat : Nat) : Int) = v
      omega
    exact (List.map_congr_left this).trans (List.map_id'' (fun _ => rfl) _) |>.symm
  · intro n hn
    obtain ⟨v, hv, rfl⟩ := List.mem_map.mp hn
    have := h v hv
    omega
theorem xor_small {c v : Nat} (hv : v < 32) : (c * 32) ^^^ v = c * 32 + v := by
  have h1 : ((c * 32) ^^^ v) / 2 ^ 5 = (c * 32) / 2 ^ 5 ^^^ v / 2 ^ 5 := Nat.xor_div_two_pow
  have h2 : ((c * 32) ^^^ v) % 2 ^ 5 = (c * 32) % 2 ^ 5 ^^^ v % 2 ^ 5 := Nat.xor_mod_two_pow
  have e1 : (c * 32) / 2 ^ 5 = c := by omega
  have e2 : v / 2 ^ 5 = 0 := by omega
  have e3 : (c * 32) % 2 ^ 5 = 0 := by omega
  have e4 : v % 2 ^ 5 = v := by omega
  rw [e1, e2, Nat.xor_zero] at h1
  rw [e3, e4, Nat.zero_xor] at h2
  omega
theorem GT_zero : GT 0 = 0 := by decide +kernel
theorem step_small {c v : Nat} (hc : c < 2 ^ 25) (hv : v < 32) : stepN c v = c * 32 + v := by
  unfold stepN TN
  rw [Nat.mod_eq_of_lt hc, Nat.div_eq_of_lt hc, GT_zero, Nat.xor_zero, xor_small hv]
def limbN (c : Nat) : List Nat := [c / 33554432, c / 1048576 % 32, c / 32768 % 32, c / 1024 % 32, c / 32 % 32, c % 32]
theorem six_cast (c : Nat) : sixI (c : Int) = castL (limbN c) := by
  have d : ∀ k : Nat, (c : Int).fdiv (k : Int) = ((c / k : Nat) : Int) := fun k => (Int.ofNat_fdiv c k).symm
  have m : ∀ k : Nat, ((k : Nat) : Int).fmod 32 = ((k % 32 : Nat) : Int) := fun k => (Int.ofNat_fmod k 32).symm
  have d1 := d 33554432
  have d2 := d 1048576
  have d3 := d 32768
  have d4 := d 1024
  have d5 := d 32
  unfold sixI limbN
  simp only [castL, List.map_cons, List.map_nil]
  rw [show (33554432 : Int) = ((33554432 : Nat) : Int) from rfl, d1, show (1048576 : Int) = ((1048576 : Nat) : Int) from rfl, d2, show (32768 : Int) = ((32768 : Nat) : Int) from rfl, d3, show (1024 : Int) = ((1024 : Nat) : Int) from rfl, d4]
  rw [show (c : Int).fdiv 32 = ((c / 32 : Nat) : Int) from d5, m, m, m, m, m]
theorem poly_pack {x0 x1 x2 x3 x4 x5 : Nat} (h0 : x0 < 32) (h1 : x1 < 32) (h2 : x2 < 32) (h3 : x3 < 32) (h4 : x4 < 32) (h5 : x5 < 32) :
    polyN 0 [x0, x1, x2, x3, x4, x5] = ((((x0 * 32 + x1) * 32 + x2) * 32 + x3) * 32 + x4) * 32 + x5 := by
  show stepN (stepN (stepN (stepN (stepN (stepN 0 x0) x1) x2) x3) x4) x5 = _
  rw [step_small (c := 0) (by decide) h0, Nat.zero_mul, Nat.zero_add, step_small (by omega) h1, step_small (by omega) h2, step_small (by omega) h3, step_small (by omega) h4, step_small (by omega) h5]
theorem limb_pack {x : List Nat} (hl : x.length = 6) (h : ∀ v ∈ x, v < 32) : limbN (polyN 0 x) = x ∧ polyN 0 x < 2 ^ 30 := by
  match x, hl with
  | [x0, x1, x2, x3, x4, x5], _ =>
    have h0 := h x0 (by simp)
    have h1 := h x1 (by simp)
    have h2 := h x2 (by simp)
    have h3 := h x3 (by simp)
    have h4 := h x4 (by simp)
    have h5 := h x5 (by simp)
    rw [poly_pack h0 h1 h2 h3 h4 h5]
    unfold limbN
    refine ⟨?_, by omega⟩
    rw [show (((((x0 * 32 + x1) * 32 + x2) * 32 + x3) * 32 + x4) * 32 + x5) / 33554432 = x0 by omega, show (((((x0 * 32 + x1) * 32 + x2) * 32 + x3) * 32 + x4) * 32 + x5) / 1048576 % 32 = x1 by omega,
      show (((((x0 * 32 + x1) * 32 + x2) * 32 + x3) * 32 + x4) * 32 + x5) / 32768 % 32 = x2 by omega, show (((((x0 * 32 + x1) * 32 + x2) * 32 + x3) * 32 + x4) * 32 + x5) / 1024 % 32 = x3 by omega,
      show (((((x0 * 32 + x1) * 32 + x2) * 32 + x3) * 32 + x4) * 32 + x5) / 32 % 32 = x4 by omega, show (((((x0 * 32 + x1) * 32 + x2) * 32 + x3) * 32 + x4) * 32 + x5) % 32 = x5 by omega]
theorem pack_limb {c : Nat} (h : c < 2 ^ 30) : polyN 0 (limbN c) = c := by
  unfold limbN
  rw [poly_pack (by omega) (by omega) (by omega) (by omega) (by omega) (by omega)]
  omega
theorem times_tab : ∀ l : Fin 32, timesI ((GT l.val % 32 : Nat) : Int) 17 = ((l.val : Nat) : Int) ∧ timesI 29 ((l.val : Nat) : Int) = ((GT l.val / 2 ^ 25 : Nat) : Int) ∧ timesI 22 ((l.val : Nat) : Int) = ((GT l.val / 2 ^ 20 % 32 : Nat) : Int) ∧
    timesI 20 ((l.val : Nat) : Int) = ((GT l.val / 2 ^ 15 % 32 : Nat) : Int) ∧ timesI 21 ((l.val : Nat) : Int) = ((GT l.val / 2 ^ 10 % 32 : Nat) : Int) ∧ timesI 29 ((l.val : Nat) : Int) = ((GT l.val / 2 ^ 5 % 32 : Nat) : Int) := by decide +kernel
theorem step_back {c : Nat} (h : c < 2 ^ 30) : stepB (sixI ((TN c : Nat) : Int)) = sixI (c : Int) := by
  have hl : c / 2 ^ 25 < 32 := by omega
  obtain ⟨t5, t0, t1, t2, t3, t4⟩ := times_tab ⟨c / 2 ^ 25, hl⟩
  dsimp only at t5 t0 t1 t2 t3 t4
  rw [six_cast, six_cast]
  have y0 : TN c / 33554432 = (c / 1048576 % 32) ^^^ (GT (c / 2 ^ 25) / 2 ^ 25) := by
    have e : TN c / 2 ^ 25 = (c % 2 ^ 25 * 32) / 2 ^ 25 ^^^ GT (c / 2 ^ 25) / 2 ^ 25 := Nat.xor_div_two_pow
    rw [show (c % 2 ^ 25 * 32) / 2 ^ 25 = c / 1048576 % 32 by omega] at e
    exact e
  have y1 : TN c / 1048576 % 32 = (c / 32768 % 32) ^^^ (GT (c / 2 ^ 25) / 2 ^ 20 % 32) := by
    have e : TN c / 2 ^ 20 % 2 ^ 5 = ((c % 2 ^ 25 * 32) / 2 ^ 20 % 2 ^ 5) ^^^ (GT (c / 2 ^ 25) / 2 ^ 20 % 2 ^ 5) := by
      unfold TN; rw [Nat.xor_div_two_pow, Nat.xor_mod_two_pow]
    rw [show (c % 2 ^ 25 * 32) / 2 ^ 20 % 2 ^ 5 = c / 32768 % 32 by omega] at e
    exact e
  have y2 : TN c / 32768 % 32 = (c / 1024 % 32) ^^^ (GT (c / 2 ^ 25) / 2 ^ 15 % 32) := by
    have e : TN c / 2 ^ 15 % 2 ^ 5 = ((c % 2 ^ 25 * 32) / 2 ^ 15 % 2 ^ 5) ^^^ (GT (c / 2 ^ 25) / 2 ^ 15 % 2 ^ 5) := by
      unfold TN; rw [Nat.xor_div_two_pow, Nat.xor_mod_two_pow]
    rw [show (c % 2 ^ 25 * 32) / 2 ^ 15 % 2 ^ 5 = c / 1024 % 32 by omega] at e
    exact e
  have y3 : TN c / 1024 % 32 = (c / 32 % 32) ^^^ (GT (c / 2 ^ 25) / 2 ^ 10 % 32) := by
    have e : TN c / 2 ^ 10 % 2 ^ 5 = ((c % 2 ^ 25 * 32) / 2 ^ 10 % 2 ^ 5) ^^^ (GT (c / 2 ^ 25) / 2 ^ 10 % 2 ^ 5) := by
      unfold TN; rw [Nat.xor_div_two_pow, Nat.xor_mod_two_pow]
    rw [show (c % 2 ^ 25 * 32) / 2 ^ 10 % 2 ^ 5 = c / 32 % 32 by omega] at e
    exact e
  have y4 : TN c / 32 % 32 = (c % 32) ^^^ (GT (c / 2 ^ 25) / 2 ^ 5 % 32) := by
    have e : TN c / 2 ^ 5 % 2 ^ 5 = ((c % 2 ^ 25 * 32) / 2 ^ 5 % 2 ^ 5) ^^^ (GT (c / 2 ^ 25) / 2 ^ 5 % 2 ^ 5) := by
      unfold TN; rw [Nat.xor_div_two_pow, Nat.xor_mod_two_pow]
    rw [show (c % 2 ^ 25 * 32) / 2 ^ 5 % 2 ^ 5 = c % 32 by omega] at e
    exact e
  have y5 : TN c % 32 = GT (c / 2 ^ 25) % 32 := by
    have e : TN c % 2 ^ 5 = ((c % 2 ^ 25 * 32) % 2 ^ 5) ^^^ (GT (c / 2 ^ 25) % 2 ^ 5) := Nat.xor_mod_two_pow
    rw [show (c % 2 ^ 25 * 32) % 2 ^ 5 = 0 by omega, Nat.zero_xor] at e
    exact e
  unfold stepB backI limbN
  simp only [castL, List.map_cons, List.map_nil, List.getD_cons_zero, List.getD_cons_succ]
  rw [y0, y1, y2, y3, y4, y5, t5]
  have xx : ∀ a b : Nat, Builtin.bitXor ((a ^^^ b : Nat) : Int) ((b : Nat) : Int) = ((a : Nat) : Int) := fun a b => by
    rw [bxor, Nat.xor_assoc, Nat.xor_self, Nat.xor_zero]
  rw [show Builtin.bitXor _ (timesI 29 ((c / 2 ^ 25 : Nat) : Int)) = Builtin.bitXor _ _ from congrArg _ t0, xx, t1, xx, t2, xx, t3, xx]
  rw [show timesI 29 ((c / 2 ^ 25 : Nat) : Int) = _ from t4, xx]
theorem back_poly : ∀ (m : Nat) {c : Nat}, c < 2 ^ 30 → backN m (sixI ((polyN c (List.replicate m 0) : Nat) : Int)) = sixI (c : Int)
  | 0, c, h => rfl
  | m + 1, c, h => by
    show stepB (backN m (sixI ((polyN (stepN c 0) (List.replicate m 0) : Nat) : Int))) = _
    have e : stepN c 0 = TN c := by unfold stepN; rw [Nat.xor_zero]
    rw [e, back_poly m (TN_lt h), step_back h]
end Mine
end
/-! part M3 -/
section
open PySem PySem.W PyProof.Rows
set_option Elab.async false
set_option maxRecDepth 100000
set_option maxHeartbeats 4000000
set_option linter.unusedSimpArgs false
set_option linter.unusedVariables false
namespace Mine
theorem exp_ok {f : Str} (hf : FrontOk f) : FivesOk (expandI f) := by
  intro v hv
  unfold expandI at hv
  rcases List.mem_append.mp hv with hv | hv
  · rcases List.mem_append.mp hv with hv | hv
    · obtain ⟨c, hc, rfl⟩ := List.mem_map.mp hv
      have h := hf.2.2 c hc
      have e : ((c : Nat) : Int).fdiv (2 ^ Int.toNat 5) = ((c / 32 : Nat) : Int) := (Int.ofNat_fdiv c 32).symm
      rw [e]
      omega
    · rw [List.mem_singleton.mp hv]; decide
  · obtain ⟨c, hc, rfl⟩ := List.mem_map.mp hv
    have := bitAnd_range ((c : Nat) : Int) (y := 31) (by decide)
    omega
theorem getD_app (a r : List Int) (k : Nat) : (a ++ r).getD (a.length + k) 0 = r.getD k 0 := by
  rw [List.getD_eq_getElem?_getD, List.getElem?_append_right (by omega), Nat.add_sub_cancel_left, ← List.getD_eq_getElem?_getD]
theorem over_int (A C : List Int) (b0 b1 b2 b3 b4 b5 x0 x1 x2 x3 x4 x5 : Int) : overI (A ++ ([b0, b1, b2, b3, b4, b5] ++ C)) (A.length : Int) [x0, x1, x2, x3, x4, x5] =
    A ++ [Builtin.bitXor b0 x0, Builtin.bitXor b1 x1, Builtin.bitXor b2 x2, Builtin.bitXor b3 x3, Builtin.bitXor b4 x4, Builtin.bitXor b5 x5] ++ C := by
  have e : rangeKs 0 6 = [0, 1, 2, 3, 4, 5] := rfl
  have g : ∀ k : Nat, (A ++ ([b0, b1, b2, b3, b4, b5] ++ C)).getD (A.length + k) 0 = ([b0, b1, b2, b3, b4, b5] ++ C).getD k 0 := fun k => getD_app _ _ _
  unfold overI
  rw [e]
  simp only [List.map_cons, List.map_nil]
  rw [show ((A.length : Int) + 0).toNat = A.length + 0 by omega, show ((A.length : Int) + 1).toNat = A.length + 1 by omega, show ((A.length : Int) + 2).toNat = A.length + 2 by omega, show ((A.length : Int) + 3).toNat = A.length + 3 by omega,
    show ((A.length : Int) + 4).toNat = A.length + 4 by omega, show ((A.length : Int) + 5).toNat = A.length + 5 by omega, show ((A.length : Int) + 6).toNat = A.length + 6 by omega, g, g, g, g, g, g]
  have ht : List.take (A.length : Int).toNat (A ++ ([b0, b1, b2, b3, b4, b5] ++ C)) = A := by rw [Int.toNat_natCast]; exact List.take_left' rfl
  have hd : List.drop (A.length + 6) (A ++ ([b0, b1, b2, b3, b4, b5] ++ C)) = C := by
    rw [← List.append_assoc]; exact List.drop_left' (by simp)
  rw [ht, hd]
  rfl
theorem over_nat (a b c x : List Nat) (hb : b.length = 6) (hx : x.length = 6) : overI (castL (a ++ b ++ c)) (a.length : Int) (castL x) = castL (a ++ xorL b x ++ c) := by
  match b, hb, x, hx with
  | [b0, b1, b2, b3, b4, b5], _, [x0, x1, x2, x3, x4, x5], _ =>
    have h := over_int (castL a) (castL c) b0 b1 b2 b3 b4 b5 x0 x1 x2 x3 x4 x5
    rw [show (castL a).length = a.length by simp] at h
    have ev : castL (a ++ [b0, b1, b2, b3, b4, b5] ++ c) = castL a ++ ([(b0 : Int), (b1 : Int), (b2 : Int), (b3 : Int), (b4 : Int), (b5 : Int)] ++ castL c) := by simp [castL]
    rw [ev]
    refine Eq.trans h ?_
    simp only [bxor, xorL, castL, List.map_append, List.map_cons, List.map_nil]
theorem cut_nat (ns : List Nat) (st : Nat) (h : st + 6 ≤ ns.length) : ∃ a b c : List Nat, ns = a ++ b ++ c ∧ a.length = st ∧ b.length = 6 ∧ c.length = ns.length - (st + 6) := by
  refine ⟨ns.take st, (ns.drop st).take 6, ns.drop (st + 6), ?_, ?_, ?_, ?_⟩
  · rw [List.append_assoc, ← List.drop_drop, List.take_append_drop, List.take_append_drop]
  · rw [List.length_take]; omega
  · rw [List.length_take, List.length_drop]; omega
  · rw [List.length_drop]
theorem len_xorL : ∀ {b x : List Nat}, b.length = x.length → (xorL b x).length = b.length
  | [], [], _ => rfl
  | _ :: r, _ :: q, h => by
    show (xorL r q).length + 1 = r.length + 1
    rw [len_xorL (by simpa using h)]
theorem xorL_zero : ∀ c : List Nat, xorL c (List.replicate c.length 0) = c
  | [] => rfl
  | v :: r => by
    show (v ^^^ 0) :: xorL r (List.replicate r.length 0) = v :: r
    rw [Nat.xor_zero, xorL_zero r]
theorem xorL_self : ∀ {b x : List Nat}, b.length = x.length → xorL (xorL b x) x = b
  | [], [], _ => rfl
  | b :: r, x :: q, h => by
    show ((b ^^^ x) ^^^ x) :: xorL (xorL r q) q = b :: r
    rw [Nat.xor_assoc, Nat.xor_self, Nat.xor_zero, xorL_self (by simpa using h)]
theorem poly_mid {a b c x : List Nat} (ha : ∀ v ∈ a, v < 32) (hb : ∀ v ∈ b, v < 32) (hc : ∀ v ∈ c, v < 32) (hx : ∀ v ∈ x, v < 32) (hl : b.length = x.length) :
    polyN 1 (a ++ xorL b x ++ c) = polyN 1 (a ++ b ++ c) ^^^ polyN (polyN 0 x) (List.replicate c.length 0) := by
  have hA : polyN 1 a < 2 ^ 30 := polyN_lt (by decide) ha
  have hB : polyN (polyN 1 a) b < 2 ^ 30 := polyN_lt hA hb
  have hX : polyN 0 x < 2 ^ 30 := polyN_lt (by decide) hx
  rw [poly_app, poly_app, poly_app, poly_app]
  have e1 : polyN (polyN 1 a) (xorL b x) = polyN (polyN 1 a) b ^^^ polyN 0 x := by
    have := poly_lin hl hA (show 0 < 2 ^ 30 by decide) hb hx
    rwa [Nat.xor_zero] at this
  rw [e1]
  have e2 := poly_lin (vs := c) (us := List.replicate c.length 0) (by simp) hB hX hc (fun v hv => by rw [(List.mem_replicate.mp hv).2]; decide)
  rwa [xorL_zero] at e2
theorem create_nat {f : Str} {e v : List Nat} {vs : List Int} (he : expandI f = castL e) (hv : vs = castL v) (le : ∀ x ∈ e, x < 32) (lv : ∀ x ∈ v, x < 32) : createI f vs = castL (limbN (polyN 1 (e ++ v ++ [0, 0, 0, 0, 0, 0]) ^^^ 1)) := by
  unfold createI
  have e1 : expandI f ++ vs ++ [0, 0, 0, 0, 0, 0] = castL (e ++ v ++ [0, 0, 0, 0, 0, 0]) := by
    rw [he, hv]; simp [castL]
  rw [e1, poly_nat, show (1 : Int) = ((1 : Nat) : Int) from rfl, bxor]
  generalize hM : polyN 1 (e ++ v ++ [0, 0, 0, 0, 0, 0]) ^^^ 1 = M
  have hlt : M < 2 ^ 30 := by
    rw [← hM]
    refine Nat.xor_lt_two_pow (polyN_lt (by decide) fun x hx => ?_) (by decide)
    rcases List.mem_append.mp hx with hx | hx
    · exact (List.mem_append.mp hx).elim (le x) (lv x)
    · have h0 : x = 0 := by simpa using hx
      rw [h0]; decide
  have d : ∀ k : Nat, Builtin.bitAnd ((M : Int).fdiv ((k : Nat) : Int)) 31 = ((M / k % 32 : Nat) : Int) := fun k => by
    rw [show (M : Int).fdiv (k : Int) = ((M / k : Nat) : Int) from (Int.ofNat_fdiv M k).symm, bitAnd_m5]; rfl
  have e : rangeKs 0 6 = [0, 1, 2, 3, 4, 5] := rfl
  rw [e]
  have d0 : Builtin.bitAnd ((M : Int).fdiv (2 ^ (5 * (5 - (0 : Int))).toNat)) 31 = ((M / 33554432 : Nat) : Int) := by
    refine Eq.trans (d 33554432) ?_
    omega
  have d1 : Builtin.bitAnd ((M : Int).fdiv (2 ^ (5 * (5 - (1 : Int))).toNat)) 31 = ((M / 1048576 % 32 : Nat) : Int) := d 1048576
  have d2 : Builtin.bitAnd ((M : Int).fdiv (2 ^ (5 * (5 - (2 : Int))).toNat)) 31 = ((M / 32768 % 32 : Nat) : Int) := d 32768
  have d3 : Builtin.bitAnd ((M : Int).fdiv (2 ^ (5 * (5 - (3 : Int))).toNat)) 31 = ((M / 1024 % 32 : Nat) : Int) := d 1024
  have d4 : Builtin.bitAnd ((M : Int).fdiv (2 ^ (5 * (5 - (4 : Int))).toNat)) 31 = ((M / 32 % 32 : Nat) : Int) := d 32
  have d5 : Builtin.bitAnd ((M : Int).fdiv (2 ^ (5 * (5 - (5 : Int))).toNat)) 31 = ((M % 32 : Nat) : Int) := by
    refine Eq.trans (d 1) ?_
    rw [Nat.div_one]
  simp only [List.map_cons, List.map_nil, d0, d1, d2, d3, d4, d5]
  rfl
end Mine
end
/-! part MS -/
section
open PySem PySem.W PyProof.Rows
set_option Elab.async false
set_option maxRecDepth 100000
set_option maxHeartbeats 4000000
set_option linter.unusedSimpArgs false
set_option linter.unusedVariables false
namespace Mine
theorem limb_lt {M : Nat} (h : M < 2 ^ 30) : ∀ v ∈ limbN M, v < 32 := by
  intro v hv
  simp only [limbN, List.mem_cons, List.not_mem_nil, or_false] at hv
  rcases hv with rfl | rfl | rfl | rfl | rfl | rfl <;> omega
theorem app_lt {a b : List Nat} (ha : ∀ v ∈ a, v < 32) (hb : ∀ v ∈ b, v < 32) : ∀ v ∈ a ++ b, v < 32 := fun v hv => (List.mem_append.mp hv).elim (ha v) (hb v)
theorem zeros_lt : ∀ v ∈ [0, 0, 0, 0, 0, 0], v < 32 := by decide
theorem poly_nil (c : Nat) : polyN c [] = c := rfl
theorem valid_nat {e v : List Nat} (le : ∀ x ∈ e, x < 32) (lv : ∀ x ∈ v, x < 32) : polyN 1 (e ++ v ++ limbN (polyN 1 (e ++ v ++ [0, 0, 0, 0, 0, 0]) ^^^ 1)) = 1 ∧ ∀ x ∈ limbN (polyN 1 (e ++ v ++ [0, 0, 0, 0, 0, 0]) ^^^ 1), x < 32 := by
  have hP : polyN 1 (e ++ v ++ [0, 0, 0, 0, 0, 0]) < 2 ^ 30 := polyN_lt (by decide) (app_lt (app_lt le lv) zeros_lt)
  have hM : polyN 1 (e ++ v ++ [0, 0, 0, 0, 0, 0]) ^^^ 1 < 2 ^ 30 := Nat.xor_lt_two_pow hP (by decide)
  refine ⟨?_, limb_lt hM⟩
  generalize hm : polyN 1 (e ++ v ++ [0, 0, 0, 0, 0, 0]) ^^^ 1 = M at *
  have h := poly_mid (a := e ++ v) (b := [0, 0, 0, 0, 0, 0]) (c := []) (x := limbN M) (app_lt le lv) zeros_lt (fun v hv => nomatch hv) (limb_lt hM) rfl
  have e1 : xorL [0, 0, 0, 0, 0, 0] (limbN M) = limbN M := by
    show [0 ^^^ _, 0 ^^^ _, 0 ^^^ _, 0 ^^^ _, 0 ^^^ _, 0 ^^^ _] = _
    simp only [Nat.zero_xor]
    rfl
  rw [e1, List.append_nil, List.append_nil, List.length_nil, List.replicate_zero, poly_nil, pack_limb hM] at h
  rw [h, ← hm, ← Nat.xor_assoc, Nat.xor_self, Nat.zero_xor]
theorem cast_app (a b : List Nat) : castL (a ++ b) = castL a ++ castL b := List.map_append
theorem m_valid {f : Str} {vs : List Int} (hf : FrontOk f) (hv : FivesOk vs) : polyI (expandI f ++ (vs ++ createI f vs)) = 1 := by
  obtain ⟨e, he, le, _⟩ := cast_of (exp_ok hf)
  obtain ⟨v, hv', lv, _⟩ := cast_of hv
  rw [create_nat he hv' le lv, he, hv', ← cast_app, ← cast_app, ← List.append_assoc, poly_nat, (valid_nat le lv).1]
  rfl
theorem m_left {f : Str} {vs : List Int} (hf : FrontOk f) (hv : FivesOk vs) : 0 ≤ leftI f vs ∧ leftI f vs < 1073741824 := by
  obtain ⟨e, he, le, _⟩ := cast_of (exp_ok hf)
  obtain ⟨v, hv', lv, _⟩ := cast_of hv
  unfold leftI
  rw [he, hv', ← cast_app, poly_nat, show (1 : Int) = ((1 : Nat) : Int) from rfl, bxor]
  have hP : polyN 1 (e ++ v) ^^^ 1 < 2 ^ 30 := Nat.xor_lt_two_pow (polyN_lt (by decide) (app_lt le lv)) (by decide)
  omega
theorem m_heal {vs xs : List Int} {st : Int} (hv : FivesOk vs) (h0 : 0 ≤ st) (h1 : st + 6 ≤ vs.length) (hxl : xs.length = 6) (hx : FivesOk xs) : overI (overI vs st xs) st xs = vs := by
  obtain ⟨v, hv', lv, vl⟩ := cast_of hv
  obtain ⟨x, hx', lx, xl⟩ := cast_of hx
  obtain ⟨a, b, c, hc, la, lb, lc⟩ := cut_nat v st.toNat (by omega)
  have hst : st = (a.length : Int) := by omega
  rw [hv', hx', hc, hst, over_nat a b c x lb (by omega), over_nat a (xorL b x) c x (by rw [len_xorL (by omega)]; omega) (by omega), xorL_self (by omega)]
theorem hurt_nat {f : Str} {vs xs : List Int} {st : Int} (hf : FrontOk f) (hv : FivesOk vs) (h0 : 0 ≤ st) (h1 : st ≤ vs.length) (hxl : xs.length = 6) (hx : FivesOk xs) :
    ∃ x : List Nat, xs = castL x ∧ x.length = 6 ∧ (∀ v ∈ x, v < 32) ∧ polyI (expandI f ++ overI (vs ++ createI f vs) st xs) = ((1 ^^^ polyN (polyN 0 x) (List.replicate ((vs.length : Int) - st).toNat 0) : Nat) : Int) := by
  obtain ⟨e, he, le, _⟩ := cast_of (exp_ok hf)
  obtain ⟨v, hv', lv, vl⟩ := cast_of hv
  obtain ⟨x, hx', lx, xl⟩ := cast_of hx
  refine ⟨x, hx', by omega, lx, ?_⟩
  obtain ⟨hval, hlt⟩ := valid_nat le lv
  have hcr := create_nat he hv' le lv
  generalize hcs : limbN (polyN 1 (e ++ v ++ [0, 0, 0, 0, 0, 0]) ^^^ 1) = cs at *
  have hcl : cs.length = 6 := by rw [← hcs]; rfl
  have hV : vs ++ createI f vs = castL (v ++ cs) := by rw [hcr, cast_app, hv']
  obtain ⟨a, b, c, hc, la, lb, lc⟩ := cut_nat (v ++ cs) st.toNat (by rw [List.length_append]; omega)
  have hst : st = (a.length : Int) := by omega
  have hlc : c.length = ((vs.length : Int) - st).toNat := by rw [lc, List.length_append]; omega
  have hall := app_lt lv hlt
  rw [hc] at hall
  have ha : ∀ v ∈ a, v < 32 := fun v hv => hall v (List.mem_append_left _ (List.mem_append_left _ hv))
  have hb : ∀ v ∈ b, v < 32 := fun v hv => hall v (List.mem_append_left _ (List.mem_append_right _ hv))
  have hcc : ∀ v ∈ c, v < 32 := fun v hv => hall v (List.mem_append_right _ hv)
  have h := poly_mid (a := e ++ a) (b := b) (c := c) (x := x) (app_lt le ha) hb hcc lx (by omega)
  have hval2 : polyN 1 (e ++ a ++ b ++ c) = 1 := by
    rw [List.append_assoc, hc] at hval
    rw [List.append_assoc, List.append_assoc, ← List.append_assoc a]
    exact hval
  rw [hval2] at h
  rw [← hlc, hV, hc, hx', hst, over_nat a b c x lb (by omega), he, ← cast_app, poly_nat, ← h]
  congr 2
  simp only [List.append_assoc]
theorem m_six {f : Str} {vs xs : List Int} {st : Int} (hf : FrontOk f) (hv : FivesOk vs) (h0 : 0 ≤ st) (h1 : st ≤ vs.length) (hxl : xs.length = 6) (hx : FivesOk xs) :
    backN ((vs.length : Int) - st).toNat (sixI (leftI f (overI (vs ++ createI f vs) st xs))) = xs := by
  obtain ⟨x, hx', xl, lx, h⟩ := hurt_nat hf hv h0 h1 hxl hx
  obtain ⟨p1, p2⟩ := limb_pack xl lx
  unfold leftI
  rw [h, show (1 : Int) = ((1 : Nat) : Int) from rfl, bxor, Nat.xor_comm 1, Nat.xor_assoc, Nat.xor_self, Nat.xor_zero, back_poly _ p2, six_cast, p1, hx']
theorem back_zero : ∀ n : Nat, backN n [0, 0, 0, 0, 0, 0] = [0, 0, 0, 0, 0, 0]
  | 0 => rfl
  | n + 1 => by
    show stepB (backN n _) = _
    rw [back_zero n]
    decide +kernel
theorem one_zero {f : Str} {vs xs : List Int} {st : Int} (hf : FrontOk f) (hv : FivesOk vs) (h0 : 0 ≤ st) (h1 : st ≤ vs.length) (hxl : xs.length = 6) (hx : FivesOk xs)
    (h : polyI (expandI f ++ overI (vs ++ createI f vs) st xs) = 1) : xs = [0, 0, 0, 0, 0, 0] := by
  have h6 := m_six hf hv h0 h1 hxl hx
  unfold leftI at h6
  rw [h, bitXor_self, show sixI 0 = [0, 0, 0, 0, 0, 0] from rfl, back_zero] at h6
  exact h6.symm
theorem m_hurt {f : Str} {vs xs : List Int} {st : Int} (hf : FrontOk f) (hv : FivesOk vs) (h0 : 0 ≤ st) (h1 : st ≤ vs.length) (hxl : xs.length = 6) (hx : FivesOk xs) (hne : overI (vs ++ createI f vs) st xs ≠ vs ++ createI f vs) :
    polyI (expandI f ++ overI (vs ++ createI f vs) st xs) ≠ 1 := fun h => by
  have hz := one_zero hf hv h0 h1 hxl hx h
  refine hne ?_
  have hV : FivesOk (vs ++ createI f vs) := fun v h => (List.mem_append.mp h).elim (hv v) mem_create
  obtain ⟨v, hv', lv, vl⟩ := cast_of hV
  have hvl : (vs ++ createI f vs).length = vs.length + 6 := by rw [List.length_append, len_create]
  obtain ⟨a, b, c, hc, la, lb, lc⟩ := cut_nat v st.toNat (by omega)
  have hst : st = (a.length : Int) := by omega
  have hx0 : xs = castL (List.replicate b.length 0) := by rw [hz, lb]; rfl
  rw [hv', hx0, hc, hst, over_nat a b c _ lb (by rw [List.length_replicate, lb]), xorL_zero]
theorem m_newer {f : Str} {vs : List Int} (hf : FrontOk f) (hv : FivesOk vs) : polyI (expandI f ++ overI (vs ++ createI f vs) (vs.length : Int) [21, 28, 16, 12, 5, 2]) ≠ 1 := fun h => by
  have hz := one_zero hf hv (by omega) (by omega) rfl (by unfold FivesOk; decide) h
  revert hz
  decide
end Mine
end
/-! part B3 -/
section
open PySem PySem.W PyProof.Rows
set_option Elab.async false
set_option maxRecDepth 100000
set_option maxHeartbeats 4000000
namespace Mine
section
variable {prog : Program} {w : World} {A : Around} {E : Value → Shared → Prop} {s : Shared} {env : Env} {h₀ : Heap} {x : Str} {body : List Stmt} {Q : Flow → Shared → Prop}
/-- a turn's end of a loop whose turns rebind a name to a new list -/
def NewEnd (h₀ : Heap) (L : Addr) (x : Str) (J : (Str → Option Value) → Led → Prop) (I : Addr × Obj) (s₁ : Shared) (f : Flow) (s₂ : Shared) : Prop :=
  ∃ (h' : Heap) (tk : Nat) (u M : Str → Option Value) (nx : Led), f = .next ∧ s₂ = { s₁ with heap := h', toks := tk } ∧ Fr h₀ L h' (fun y => if y = x then u y else M y) ∧ News h₀ L h' (I :: nx) ∧ (∀ p ∈ nx, p.1 ≠ I.1) ∧ J M nx
theorem loop_new {r : Addr} {a₀ b₀ : Int} {t₀ u₀ v₀ : Tok} {n : Nat} {m₀ : Str → Option Value} {news : Led} (J : Nat → (Str → Option Value) → Led → Prop)
    (hh : A.handled = none) (hr : IsRange s.heap r a₀ b₀ 1 t₀ u₀ v₀) (hsmall : Builtin.Range.small a₀ b₀ 1 = true) (hn : Builtin.Range.rangeSize a₀ b₀ 1 = (n : Int)) (F : Fr h₀ env.locals s.heap m₀) (N : News h₀ env.locals s.heap news) (hj : J 0 m₀ news)
    (turn : ∀ (i : Nat) (v : Value) (M : Str → Option Value) (nx : Led) (h : Heap) (tk : Nat) (I : Addr × Obj), i < n → J i M nx → (∀ p ∈ nx, p.1 ≠ I.1) →
      Fr h₀ env.locals h (fun y => if y = x then some v else M y) → News h₀ env.locals h (I :: nx) →
      wpAny (model prog w) A (execs body env) (NewEnd h₀ env.locals x (J (i + 1)) I { s with heap := h, toks := tk }) E { s with heap := h, toks := tk })
    (done : ∀ (u M : Str → Option Value) (nx : Led) (h : Heap) (tk : Nat), J n M nx → Fr h₀ env.locals h (fun y => if y = x then u y else M y) → News h₀ env.locals h nx → Q .next { s with heap := h, toks := tk }) :
    wpAny (model prog w) A (pyIter (.ref r)) (fun it s₂ => LoopAtV prog w A h₀ env x body Q E it s₂) E s := by
  refine wpAny_pyIter_range hr hsmall ?_
  have W : Walks prog w A s.heap.objs.size [s.heap.objs.size] [s.heap.objs.size] n (fun i v => i < n ∧ ∃ t, v = .int (a₀ + i * 1) t)
      (fun i h => IsRangeIter h s.heap.objs.size (a₀ + (i : Nat) * 1) ((n : Int) - (i : Nat)) 1) := (Walks.range hh _ a₀ 1 n).bound
  have hI₀ : h₀.get? s.heap.objs.size = none := next_is_new F
  let J' : Nat → (Str → Option Value) → Led → Prop := fun i m nx => ∃ (u M : Str → Option Value), m = (fun y => if y = x then u y else M y) ∧ J i M nx
  refine ⟨s.heap.objs.size, [s.heap.objs.size], [s.heap.objs.size], n, _, _, m₀, news, J', rfl, W, ?_, ?_, ?_, (by show IsRangeIter _ _ _ _ _; rw [hn]; simpa using Heap.get?_push_size _ rfl), F.push _, (fun p hp => ⟨Heap.get?_push_of_some _ (N p hp).1, (N p hp).2⟩), ⟨m₀, m₀, ?_, hj⟩, ?_, ?_⟩
  · intro hm
    exact absurd F.ns.lt ((List.mem_singleton.mp hm) ▸ Nat.lt_irrefl _)
  · intro b hb
    rw [List.mem_singleton.mp hb]
    exact hI₀
  · intro p hp hI
    exact absurd (Heap.lt_size (N p hp).1) ((List.mem_singleton.mp hI) ▸ Nat.lt_irrefl _)
  · funext y; by_cases hy : y = x
    · rw [if_pos hy]
    · rw [if_neg hy]
  · rintro i v m₁ nx s₁ own ⟨hh', tk', rfl⟩ hin hP ⟨u, M, rfl, hJ⟩ hoff h5 _ h7 hs F₁ N₁
    obtain ⟨oI, hoI⟩ : ∃ o, hh'.get? s.heap.objs.size = some o := ⟨_, hs⟩
    have e : (fun y => if y = x then some v else if y = x then u y else M y) = fun y => if y = x then some v else M y := by
      funext y
      by_cases h1 : y = x
      · simp [h1]
      · simp only [if_neg h1]
    rw [e] at F₁
    have hmem := h7 _ List.mem_cons_self hI₀ _ hoI
    have own1 : ∀ p ∈ own, p = (s.heap.objs.size, oI) := fun p hp => by
      have b : p.1 = s.heap.objs.size := List.mem_singleton.mp (h5 p hp)
      have c := (N₁ p (List.mem_append.mpr (.inl hp))).1
      rw [b] at c
      exact Prod.ext b (Option.some.inj (c.symm.trans hoI))
    refine wpAny_mono (turn i v M nx hh' tk' (s.heap.objs.size, oI) hin hJ (fun p hp q => hoff p hp (List.mem_singleton.mpr q)) F₁ (fun p hp => ?_)) (fun f s₂ p => ?_) fun _ _ e => e
    · rcases List.mem_cons.mp hp with hp | hp
      · rw [hp]; exact N₁ _ (List.mem_append.mpr (.inl hmem))
      · exact N₁ p (List.mem_append.mpr (.inr hp))
    · obtain ⟨h', tk, u', M', nx', rfl, rfl, F', N', ho, hm⟩ := p
      refine .next ⟨rfl, h', tk, _, nx', rfl, F', fun p hp => ?_, fun p hp hq => ho p hp (List.mem_singleton.mp hq), u', M', rfl, hm⟩
      rcases List.mem_append.mp hp with hp | hp
      · rw [own1 p hp]; exact N' _ List.mem_cons_self
      · exact N' p (List.mem_cons_of_mem _ hp)
  · rintro h' tk m' nx F' N' _ ⟨u, M, rfl, hJ⟩
    exact done u M nx h' tk hJ F' N'
end
end Mine
end
/-! part LF0 -/
section
open PySem PySem.W PyProof.Rows
set_option Elab.async false
set_option maxRecDepth 100000
namespace Mine
/-- the law from its k-th statement on, in a frame whose other names are m₀'s -/
def LawGoB (m₀ : Str → Option Value) (w : World) (mean : ExcName → Option Value) (mg mb : Str → Option Value) (k : Nat) (h₀ : Heap) (L fa : Addr) (cd : Value) (ps : List (Str × Value)) (news : Led) : Prop :=
  ∀ (s : Shared) (Q : Flow → Shared → Prop) (E : Value → Shared → Prop),
    Below callerA h₀ [] h₀ → (Mine.hd.heap_39 w.params).In h₀ → Top topProg looseG mean mg mb h₀ → CodeHd h₀ 47 45 → 45 < L →
    Fr h₀ L s.heap (kstB m₀ ps) → News h₀ L s.heap news → AllBare s.gens →
    (∀ (s' : Shared) (m' : Str → Option Value) (tb : Array Value), Fr h₀ L s'.heap m' → News h₀ L s'.heap [(45, tabObj tb)] → AllBare s'.gens → s'.os = s.os → Q (.ret (.bool true)) s') →
    wpAny (model PySem.Challenge.rw_fw0004_01.row.prog w) (callerA.deeper (lawEnv L fa cd)) (execs (lawBody.drop k) (lawEnv L fa cd)) Q E s
end Mine
end
/-! part LE -/
section
-- the walk keeps its lines by their number alone: so the numbers of two parts that stand together must differ
local macro_rules | `(tactic| walk_at "pad 0") => `(tactic| fail)
local macro_rules | `(tactic| walk_at "pad 1") => `(tactic| fail)
local macro_rules | `(tactic| walk_at "pad 2") => `(tactic| fail)
local macro_rules | `(tactic| walk_at "pad 3") => `(tactic| fail)
local macro_rules | `(tactic| walk_at "pad 4") => `(tactic| fail)
local macro_rules | `(tactic| walk_at "pad 5") => `(tactic| fail)
local macro_rules | `(tactic| walk_at "pad 6") => `(tactic| fail)
local macro_rules | `(tactic| walk_at "pad 7") => `(tactic| fail)
local macro_rules | `(tactic| walk_at "pad 8") => `(tactic| fail)
local macro_rules | `(tactic| walk_at "pad 9") => `(tactic| fail)
local macro_rules | `(tactic| walk_at "pad 10") => `(tactic| fail)
local macro_rules | `(tactic| walk_at "pad 11") => `(tactic| fail)
local macro_rules | `(tactic| walk_at "pad 12") => `(tactic| fail)
local macro_rules | `(tactic| walk_at "pad 13") => `(tactic| fail)
local macro_rules | `(tactic| walk_at "pad 14") => `(tactic| fail)
local macro_rules | `(tactic| walk_at "pad 15") => `(tactic| fail)
local macro_rules | `(tactic| walk_at "pad 16") => `(tactic| fail)
local macro_rules | `(tactic| walk_at "pad 17") => `(tactic| fail)
local macro_rules | `(tactic| walk_at "pad 18") => `(tactic| fail)
local macro_rules | `(tactic| walk_at "pad 19") => `(tactic| fail)
local macro_rules | `(tactic| walk_at "pad 20") => `(tactic| fail)
local macro_rules | `(tactic| walk_at "pad 21") => `(tactic| fail)
local macro_rules | `(tactic| walk_at "pad 22") => `(tactic| fail)
local macro_rules | `(tactic| walk_at "pad 23") => `(tactic| fail)
local macro_rules | `(tactic| walk_at "pad 24") => `(tactic| fail)
local macro_rules | `(tactic| walk_at "pad 25") => `(tactic| fail)
local macro_rules | `(tactic| walk_at "pad 26") => `(tactic| fail)
local macro_rules | `(tactic| walk_at "pad 27") => `(tactic| fail)
local macro_rules | `(tactic| walk_at "pad 28") => `(tactic| fail)
local macro_rules | `(tactic| walk_at "pad 29") => `(tactic| fail)
open PySem PySem.W PyProof.Rows
set_option Elab.async false
set_option maxRecDepth 100000
set_option maxHeartbeats 8000000
set_option linter.unusedSimpArgs false
set_option linter.unusedVariables false
set_option pp.deepTerms false
set_option pp.deepTerms.threshold 20
set_option pp.proofs false
namespace Mine
local macro_rules | `(tactic| k_mem) => `(tactic| kcf_m)
-- a list of the ledger; a length; a list's copy; two lists joined
local macro_rules | `(tactic| is_list) => `(tactic| exact News.isList (by k_asm) (by k_mem))
local macro_rules | `(tactic| ktr_unf) => `(tactic| ((simp only [sizeLine_eq, List.size_toArray, List.length_append, List.length_cons, List.length_nil, List.length_map, len_expand, len_create]); omega))
local macro_rules | `(tactic| walk_at "call type:list") => `(tactic| (k_here; (with_reducible show wpAny _ _ (call (Value.type "list") [Value.ref _]) _ _ _); k_dflt (refine' list_copyK ?k1 ?k2 ?k3 ?_ ?z; (case k1 => k_asm); (case k2 => k_asm); (case k3 => is_list); (case z => ktr_unf); k_whole); intro D' c' h' F' N' l1; (try k_lt l1)))
local macro_rules | `(tactic| walk_at "binaryOp Add ref ref") => `(tactic| (k_here; (with_reducible show wpAny _ _ (binaryOp _ (Value.ref _) (Value.ref _)) _ _ _); k_dflt (refine' kmk_add_ints ?F ?N ?a ?b ?i ?j ?_ ?z; (case F => k_asm); (case N => k_asm); (case a => is_list); (case b => is_list); (case i => l_ints); (case j => l_ints); (case z => ktr_unf)); intro D' ws' h' F' N' l1 hI'; (try k_lt l1); (have hL' := IntsAre.length hI'); (try simp only [List.length_append, List.length_cons, List.length_nil, List.length_map, len_expand, len_create] at hL')))
-- the calls of what is shown above
local macro_rules | `(tactic| walk_at "call ref") => `(tactic| (k_here; k_dflt (refine' Con.use (poly_c ?hl ?hi) ?cuB ?cuF ?cuX ?cuN ?cuT ?cuk ?cud ?cuu ?_; (case cuF => k_asm); (case cuN => k_asm); (case hl => k_mem); (case hi => l_ints); (case cuB => k_asm); (case cuX => k_asm); (case cuT => k_asm); (case cuk => first | exact rfl | assumption); (case cud => ktr_room); (case cuu => ktr_units); intro t9 h9 tk9 F9 N9; (try dsimp only))))
local macro_rules | `(tactic| walk_at "call ref") => `(tactic| (k_here; k_dflt (refine' Con.use (expand_c ?hl) ?cuB ?cuF ?cuX ?cuN ?cuT ?cuk ?cud ?cuu ?_; (case cuF => k_asm); (case cuN => k_asm); (case hl => assumption); (case cuB => k_asm); (case cuX => k_asm); (case cuT => k_asm); (case cuk => first | exact rfl | assumption); (case cud => ktr_room); (case cuu => ktr_units); intro r9 ws9 n9 h9 tk9 I9 l9 F9 N9; (try simp only [LCg.Off1, and_true] at l9); (have hL' := IntsAre.length I9); (try simp only [len_expand, len_create] at hL'); (try dsimp only))))

local macro_rules | `(tactic| walk_at "call ref") => `(tactic| (k_here; k_dflt (refine' Con.use (create_c ?hl ?hm ?hi ?hs) ?cuB ?cuF ?cuX ?cuN ?cuT ?cuk ?cud ?cuu ?_; (case cuF => k_asm); (case cuN => k_asm); (case hl => assumption); (case hm => k_mem); (case hi => l_ints); (case hs => first | assumption | omega); (case cuB => k_asm); (case cuX => k_asm); (case cuT => k_asm); (case cuk => first | exact rfl | assumption); (case cud => ktr_room); (case cuu => ktr_units); intro r9 ws9 n9 h9 tk9 I9 l9 F9 N9; (try simp only [LCg.Off1, and_true] at l9); (have hL' := IntsAre.length I9); (try simp only [len_create] at hL'); (try dsimp only))))
local macro_rules | `(tactic| k_all) => `(tactic| first | exact all_ne_up (by assumption) | exact all_ne_up' (by assumption))
local macro_rules | `(tactic| walk_at "eval ListComp") => `(tactic| (k_here; refine Halt.mk ?_))
local macro_rules | `(tactic| walk_at "exec Assign cons ListComp") => `(tactic| (k_here; refine Halt.mk ?_))
local macro_rules | `(tactic| walk_at "CompSrc") => `(tactic| (k_here; refine Halt.mk ?_))
local macro_rules | `(tactic| walk_at "call ref") => `(tactic| (k_here; (k_dflt (show wpAny _ _ (call (Value.ref 48) _) _ _ _)); refine Halt.mk ?_))
local macro_rules | `(tactic| walk_at "call ref") => `(tactic| (k_here; k_dflt (refine' Con.use (encode_c ?hl ?hm ?hi ?hs ?hv) ?cuB ?cuF ?cuX ?cuN ?cuT ?cuk ?cud ?cuu ?_; (case cuF => k_asm); (case cuN => k_asm); (case hl => assumption); (case hm => k_mem); (case hi => l_ints); (case hs => first | assumption | omega); (case hv => assumption); (case cuB => k_asm); (case cuX => k_asm); (case cuT => k_asm); (case cuk => first | exact rfl | assumption); (case cud => ktr_room); (case cuu => ktr_units); intro t9 h9 tk9 F9 N9; (try dsimp only))))
local macro_rules | `(tactic| walk_at "call ref") => `(tactic| (k_here; k_dflt (refine' Con.use (text_c ?hl ?hm ?hi ?hs ?hv) ?cuB ?cuF ?cuX ?cuN ?cuT ?cuk ?cud ?cuu ?_; (case cuF => k_asm); (case cuN => k_asm); (case hl => assumption); (case hm => k_mem); (case hi => l_ints); (case hs => first | assumption | omega); (case hv => assumption); (case cuB => k_asm); (case cuX => k_asm); (case cuT => k_asm); (case cuk => first | exact rfl | assumption); (case cud => ktr_room); (case cuu => ktr_units); intro t9 h9 tk9 F9 N9; (try dsimp only))))
local macro_rules | `(tactic| walk_at "call ref") => `(tactic| (k_here; k_dflt (refine' Con.use (over_c ?hl ?hi ?hs ?hm ?hj ?ht ?h0 ?h1) ?cuB ?cuF ?cuX ?cuN ?cuT ?cuk ?cud ?cuu ?_; (case cuF => k_asm); (case cuN => k_asm); (case hl => k_mem); (case hi => l_ints); (case hs => first | assumption | omega); (case hm => k_mem); (case hj => l_ints); (case ht => assumption); (case h0 => first | assumption | omega); (case h1 => first | assumption | omega); (case cuB => k_asm); (case cuX => k_asm); (case cuT => k_asm); (case cuk => first | exact rfl | assumption); (case cud => ktr_room); (case cuu => ktr_units); intro r9 ws9 n9 h9 tk9 I9 l9 F9 N9; (try simp only [LCg.Off1, and_true] at l9); (have hL' := IntsAre.length I9); (try dsimp only))))

local macro_rules | `(tactic| walk_at "call ref") => `(tactic| (k_here; k_dflt (refine' Con.use (over_t ?hl ?hi ?hs ?h0 ?h1) ?cuB ?cuF ?cuX ?cuN ?cuT ?cuk ?cud ?cuu ?_; (case cuF => k_asm); (case cuN => k_asm); (case hl => k_mem); (case hi => l_ints); (case hs => first | assumption | omega); (case h0 => first | assumption | omega); (case h1 => first | assumption | omega); (case cuB => k_asm); (case cuX => k_asm); (case cuT => k_asm); (case cuk => first | exact rfl | assumption); (case cud => ktr_room); (case cuu => ktr_units); intro r9 ws9 n9 h9 tk9 I9 l9 F9 N9; (try simp only [LCg.Off1, and_true] at l9); (have hL' := IntsAre.length I9); (try dsimp only))))
local macro_rules | `(tactic| walk_at "compareOp Eq ref ref") => `(tactic| (k_here; refine Halt.mk ?_))
local macro_rules | `(tactic| walk_at "compareOp NotEq ref ref") => `(tactic| (k_here; refine Halt.mk ?_))
theorem law_E {w : World} {mean : ExcName → Option Value} {mg mb : Str → Option Value} {h₀ : Heap} {m₀ : Str → Option Value} {L fa : Addr} {cd : Value} {l Df Dx Dv Dh Dw Ds : Addr} {t1 t2 t3 t4 t5 t6 : Tok} {front : Str} {fives xs : List Int} {st : Int} {w1 w2 wv wh w6 : List Value} {n1 n2 nv nh n6 : Nat} {tb : Array Value}
    (hf : FrontOk front) (hfv : FivesOk fives) (hfl : fives.length ≤ 20) (hst : 0 ≤ st ∧ st ≤ fives.length) (hxl : xs.length = 6) (hxv : FivesOk xs) (I1 : IntsAre w1 fives) (I2 : IntsAre w2 xs) (hDf : Df ≠ 45) (hDx : Dx ≠ 45)
    (Iv : IntsAre wv (fives ++ createI front fives)) (Ih : IntsAre wh (overI (fives ++ createI front fives) st xs)) (hDv : Dv ≠ 45) (hDh : Dh ≠ 45) (htab : TabOk tb) (I6 : IntsAre w6 xs) (hDs : Ds ≠ 45) :
    LawGoB m₀ w mean mg mb 19 h₀ L fa cd [(Str.ofString "six", .ref Ds), (Str.ofString "left", .int (leftI front (overI (fives ++ createI front fives) st xs)) t6), (Str.ofString "want", .ref Dw), (Str.ofString "hurt", .ref Dh), (Str.ofString "values", .ref Dv), (Str.ofString "text", .str (textS front (fives ++ createI front fives)) t5),
      (Str.ofString "changes", .ref Dx), (Str.ofString "start", .int st t3), (Str.ofString "many", .int (fives.length : Int) t4), (Str.ofString "fives", .ref Df), (Str.ofString "front", .str front t1), (Str.ofString "size", .int (front.length : Int) t2), (Str.ofString "script", .ref l)]
      [(Ds, W.listOf w6.toArray n6), (Dh, W.listOf wh.toArray nh), (Dv, W.listOf wv.toArray nv), (Dx, W.listOf w2.toArray n2), (Df, W.listOf w1.toArray n1), (45, tabObj tb)] := by
  unfold LawGoB
  k_fill
  intro s Q E B0 X0 T0 C0 l0 F N G hQ
  dsimp only [lawBody, lawFn, lawScope, lawEnv, PySem.Challenge.pw_fw0004_01, List.getLast?, List.getLast, Option.getD, List.drop]
  refine wpAny_noRaise ?_
  w_top off
  w_strict (
    have hfl6 := hf.2.1
    have hfl1 := hf.1
    have hcl := len_create front fives
    have hvv : FivesOk (fives ++ createI front fives) := fun v h => (List.mem_append.mp h).elim (hfv v) mem_create
    have hvl : (fives ++ createI front fives).length = fives.length + 6 := by rw [List.length_append, hcl]
    have hst6 : st + 6 ≤ (fives ++ createI front fives).length := by omega
    have hov := over_ok (st := st) hvv hxv
    have hol := len_over (xs := xs) hst.1 hst6
    have hheal := m_heal hvv hst.1 hst6 hxl hxv
    have hval := m_valid hf hfv
    have hnew := m_newer hf hfv
    have htak6 : List.take ((fives ++ createI front fives).length - 6) (fives ++ createI front fives) = fives := by rw [hvl, Nat.add_sub_cancel, List.take_left']; rfl
    have h3l := Iv.length
    have h4l := Ih.length
    have h6l := I6.length
    generalize hL9 : leftI front (overI (fives ++ createI front fives) st xs) = left at *
    generalize hV : fives ++ createI front fives = V at *
    have hHl : (overI V st xs).length ≤ 60 := by omega
    have hst7 : st + 6 ≤ (overI V st xs).length := by omega
    have hhl : (overI (overI V st xs) st xs).length ≤ 60 := by rw [hheal]; omega
    have hho : FivesOk (overI (overI V st xs) st xs) := by rw [hheal]; exact hvv
    have htl : (textS front V).length ≤ 67 := by rw [len_text]; omega
    have hnst : (fives.length : Int) + 6 ≤ V.length := by omega
    have hno : FivesOk (overI V (fives.length : Int) [21, 28, 16, 12, 5, 2]) := over_ok hvv (by unfold FivesOk; decide)
    have hnl : (overI V (fives.length : Int) [21, 28, 16, 12, 5, 2]).length = V.length := len_over (by omega) hnst
    have hnl6 : (overI V (fives.length : Int) [21, 28, 16, 12, 5, 2]).length ≤ 60 := by omega
    have hns0 : 0 ≤ (fives.length : Int) := by omega
    (try k_fold)
    k_steps
    refine Halt.go ?_
    simp only [hheal] at *
    rename News _ _ _ _ => N2
    refine ne_ints_same (News.isList N2 (by kcf_m)) I6 (News.isList N2 (by kcf_m)) I2 (by units_room) rfl ?_
    k_steps
    refine Halt.go ?_
    rename Fr _ _ _ _ => F8
    rename News _ _ _ _ => N8
    have hoff := news_off (news_rot6 N8) (by k_dflt (repeat' apply And.intro); all_goals first | trivial | (intro q; cases q))
    k_dflt (refine' Con.use (decode_t (rest := [_, _, _, _, _, _]) hf hvv ?dh6 ?dhs ?dhr ?dht) B0 F8 X0 (news_rot6 N8) T0 ?duk ?dud ?duu ?dur)
    case dh6 => omega
    case dhs => omega
    case dhr => exact hoff
    case dht => exact htab
    case duk => rfl
    case dud => ktr_room
    case duu => ktr_units
    refine ⟨C0, G, fun _ D8 l8 t8 ws8 n8 n8' tb8 s8 htb8 I8 o8 o8' F9 N9 G9 e9 => ?_, fun hn => absurd hval hn⟩
    clear F8 N8
    k_steps
    refine Halt.go ?_
    rename News _ _ _ _ => N9
    refine ne_pairs hf htak6 (N9.get (by kcf_m)) (News.isList N9 (by kcf_m)) I8 (N9.get (by kcf_m)) (News.isList N9 (by kcf_m)) I1 (by units_room) ?_
    k_steps
    refine Halt.go ?_
    rename Fr _ _ _ _ => F8
    rename News _ _ _ _ => N8
    k_dflt (refine' Con.use (decode_t (rest := []) hf hno ?dh6b ?dhsb ?dhrb ?dhtb) B0 F8 X0 (news_sub (b := [(45, tabObj tb8)]) N8 (by kcf_all)) T0 ?dukb ?dudb ?duub ?durb)
    case dh6b => omega
    case dhsb => omega
    case dhrb => exact fun p hp => nomatch hp
    case dhtb => exact htb8
    case dukb => rfl
    case dudb => ktr_room
    case duub => ktr_units
    refine ⟨C0, G9, fun hn => absurd hn hnew, fun _ D9 n9 tb9 s9 htb9 o9 F9 N9 G9 e9 => ?_⟩
    clear F8 N8
    k_steps
    refine Halt.go ?_
    rename Fr _ _ _ _ => FZ
    rename News _ _ _ _ => NZ
    rename s8.os = _ => e8
    refine eq_nones (NZ.get (by kcf_m)) (NZ.get (by kcf_m)) (by units_room) ?_
    exact hQ _ _ tb9 FZ (news_sub NZ (by kcf_all)) G9 (e9.trans e8))
end Mine
end
/-! part LD -/
section
open PySem PySem.W PyProof.Rows
set_option Elab.async false
set_option maxRecDepth 100000
set_option maxHeartbeats 8000000
set_option linter.unusedSimpArgs false
set_option linter.unusedVariables false
set_option pp.deepTerms false
set_option pp.deepTerms.threshold 20
set_option pp.proofs false
namespace Mine
local macro_rules | `(tactic| k_mem) => `(tactic| kcf_m)
-- a list of the ledger; a length; a list's copy; two lists joined
local macro_rules | `(tactic| is_list) => `(tactic| exact News.isList (by k_asm) (by k_mem))
local macro_rules | `(tactic| ktr_unf) => `(tactic| ((simp only [sizeLine_eq, List.size_toArray, List.length_append, List.length_cons, List.length_nil, List.length_map, len_expand, len_create]); omega))
local macro_rules | `(tactic| walk_at "call type:list") => `(tactic| (k_here; (with_reducible show wpAny _ _ (call (Value.type "list") [Value.ref _]) _ _ _); k_dflt (refine' list_copyK ?k1 ?k2 ?k3 ?_ ?z; (case k1 => k_asm); (case k2 => k_asm); (case k3 => is_list); (case z => ktr_unf); k_whole); intro D' c' h' F' N' l1; (try k_lt l1)))
local macro_rules | `(tactic| walk_at "binaryOp Add ref ref") => `(tactic| (k_here; (with_reducible show wpAny _ _ (binaryOp _ (Value.ref _) (Value.ref _)) _ _ _); k_dflt (refine' kmk_add_ints ?F ?N ?a ?b ?i ?j ?_ ?z; (case F => k_asm); (case N => k_asm); (case a => is_list); (case b => is_list); (case i => l_ints); (case j => l_ints); (case z => ktr_unf)); intro D' ws' h' F' N' l1 hI'; (try k_lt l1); (have hL' := IntsAre.length hI'); (try simp only [List.length_append, List.length_cons, List.length_nil, List.length_map, len_expand, len_create] at hL')))
-- the calls of what is shown above
local macro_rules | `(tactic| walk_at "call ref") => `(tactic| (k_here; k_dflt (refine' Con.use (poly_c ?hl ?hi) ?cuB ?cuF ?cuX ?cuN ?cuT ?cuk ?cud ?cuu ?_; (case cuF => k_asm); (case cuN => k_asm); (case hl => k_mem); (case hi => l_ints); (case cuB => k_asm); (case cuX => k_asm); (case cuT => k_asm); (case cuk => first | exact rfl | assumption); (case cud => ktr_room); (case cuu => ktr_units); intro t9 h9 tk9 F9 N9; (try dsimp only))))
local macro_rules | `(tactic| walk_at "call ref") => `(tactic| (k_here; k_dflt (refine' Con.use (expand_c ?hl) ?cuB ?cuF ?cuX ?cuN ?cuT ?cuk ?cud ?cuu ?_; (case cuF => k_asm); (case cuN => k_asm); (case hl => assumption); (case cuB => k_asm); (case cuX => k_asm); (case cuT => k_asm); (case cuk => first | exact rfl | assumption); (case cud => ktr_room); (case cuu => ktr_units); intro r9 ws9 n9 h9 tk9 I9 l9 F9 N9; (try simp only [LCg.Off1, and_true] at l9); (have hL' := IntsAre.length I9); (try simp only [len_expand, len_create] at hL'); (try dsimp only))))

local macro_rules | `(tactic| walk_at "call ref") => `(tactic| (k_here; k_dflt (refine' Con.use (create_c ?hl ?hm ?hi ?hs) ?cuB ?cuF ?cuX ?cuN ?cuT ?cuk ?cud ?cuu ?_; (case cuF => k_asm); (case cuN => k_asm); (case hl => assumption); (case hm => k_mem); (case hi => l_ints); (case hs => first | assumption | omega); (case cuB => k_asm); (case cuX => k_asm); (case cuT => k_asm); (case cuk => first | exact rfl | assumption); (case cud => ktr_room); (case cuu => ktr_units); intro r9 ws9 n9 h9 tk9 I9 l9 F9 N9; (try simp only [LCg.Off1, and_true] at l9); (have hL' := IntsAre.length I9); (try simp only [len_create] at hL'); (try dsimp only))))
local macro_rules | `(tactic| k_all) => `(tactic| first | exact all_ne_up (by assumption) | exact all_ne_up' (by assumption))
local macro_rules | `(tactic| walk_at "eval ListComp") => `(tactic| (k_here; refine Halt.mk ?_))
local macro_rules | `(tactic| walk_at "exec Assign cons ListComp") => `(tactic| (k_here; refine Halt.mk ?_))
local macro_rules | `(tactic| walk_at "CompSrc") => `(tactic| (k_here; refine Halt.mk ?_))
local macro_rules | `(tactic| walk_at "call ref") => `(tactic| (k_here; (k_dflt (show wpAny _ _ (call (Value.ref 48) _) _ _ _)); refine Halt.mk ?_))
local macro_rules | `(tactic| walk_at "call ref") => `(tactic| (k_here; k_dflt (refine' Con.use (encode_c ?hl ?hm ?hi ?hs ?hv) ?cuB ?cuF ?cuX ?cuN ?cuT ?cuk ?cud ?cuu ?_; (case cuF => k_asm); (case cuN => k_asm); (case hl => assumption); (case hm => k_mem); (case hi => l_ints); (case hs => first | assumption | omega); (case hv => assumption); (case cuB => k_asm); (case cuX => k_asm); (case cuT => k_asm); (case cuk => first | exact rfl | assumption); (case cud => ktr_room); (case cuu => ktr_units); intro t9 h9 tk9 F9 N9; (try dsimp only))))
local macro_rules | `(tactic| walk_at "call ref") => `(tactic| (k_here; k_dflt (refine' Con.use (text_c ?hl ?hm ?hi ?hs ?hv) ?cuB ?cuF ?cuX ?cuN ?cuT ?cuk ?cud ?cuu ?_; (case cuF => k_asm); (case cuN => k_asm); (case hl => assumption); (case hm => k_mem); (case hi => l_ints); (case hs => first | assumption | omega); (case hv => assumption); (case cuB => k_asm); (case cuX => k_asm); (case cuT => k_asm); (case cuk => first | exact rfl | assumption); (case cud => ktr_room); (case cuu => ktr_units); intro t9 h9 tk9 F9 N9; (try dsimp only))))
local macro_rules | `(tactic| walk_at "call ref") => `(tactic| (k_here; k_dflt (refine' Con.use (over_c ?hl ?hi ?hs ?hm ?hj ?ht ?h0 ?h1) ?cuB ?cuF ?cuX ?cuN ?cuT ?cuk ?cud ?cuu ?_; (case cuF => k_asm); (case cuN => k_asm); (case hl => k_mem); (case hi => l_ints); (case hs => first | assumption | omega); (case hm => k_mem); (case hj => l_ints); (case ht => assumption); (case h0 => first | assumption | omega); (case h1 => first | assumption | omega); (case cuB => k_asm); (case cuX => k_asm); (case cuT => k_asm); (case cuk => first | exact rfl | assumption); (case cud => ktr_room); (case cuu => ktr_units); intro r9 ws9 n9 h9 tk9 I9 l9 F9 N9; (try simp only [LCg.Off1, and_true] at l9); (have hL' := IntsAre.length I9); (try dsimp only))))

local macro_rules | `(tactic| walk_at "execs cons") => `(tactic| (k_here; (with_reducible show wpAny _ _ (execs [_, _, _, _] _) _ _ _); refine Halt.mk ?_))
local macro_rules | `(tactic| walk_at "exec For Name Call cons nil") => `(tactic| (k_here; refine Halt.mk ?_))
local macro_rules | `(tactic| walk_at "pyIter ref") => `(tactic| (k_here; refine Halt.mk ?_))
local macro_rules | `(tactic| walk_at "call ref") => `(tactic| (k_here; k_dflt (refine' Con.use (back_c ?hl ?hi ?hx) ?cuB ?cuF ?cuX ?cuN ?cuT ?cuk ?cud ?cuu ?_; (case cuF => k_asm); (case cuN => k_asm); (case hl => k_mem); (case hi => l_ints); (case hx => assumption); (case cuB => k_asm); (case cuX => k_asm); (case cuT => k_asm); (case cuk => first | exact rfl | assumption); (case cud => ktr_room); (case cuu => ktr_units); intro r9 ws9 n9 h9 tk9 I9 l9 F9 N9; (try simp only [LCg.Off1, and_true] at l9); (have hL' := IntsAre.length I9); (try dsimp only))))
theorem fr_same {h₀ h : Heap} {L : Addr} {m m' : Str → Option Value} (e : ∀ z, m z = m' z) (F : Fr h₀ L h m) : Fr h₀ L h m' := (funext e : m = m') ▸ F
theorem small_up {b : Int} (h0 : 0 ≤ b) (h1 : b < 2 ^ 62) : Builtin.Range.small 0 b 1 = true := by
  unfold Builtin.Range.small
  rw [rangeSize_nat, show ((b - 0).toNat : Int) = b by omega]
  simp only [Builtin.Range.rangeFitsLong, Bool.and_eq_true, Bool.or_eq_true, decide_eq_true_eq, beq_iff_eq, show ((1 : Int) > 0) by decide, if_true]
  omega
theorem six_ok {k : Int} (h : 0 ≤ k ∧ k < 1073741824) : FivesOk (sixI k) := by
  intro v hv
  have a1 := fmod_lo (k.fdiv 1048576) (n := 32) (by decide)
  have a2 := fmod_hi (k.fdiv 1048576) (n := 32) (by decide)
  have b1 := fmod_lo (k.fdiv 32768) (n := 32) (by decide)
  have b2 := fmod_hi (k.fdiv 32768) (n := 32) (by decide)
  have c1 := fmod_lo (k.fdiv 1024) (n := 32) (by decide)
  have c2 := fmod_hi (k.fdiv 1024) (n := 32) (by decide)
  have d1 := fmod_lo (k.fdiv 32) (n := 32) (by decide)
  have d2 := fmod_hi (k.fdiv 32) (n := 32) (by decide)
  have e1 := fmod_lo k (n := 32) (by decide)
  have e2 := fmod_hi k (n := 32) (by decide)
  have f1 : 0 ≤ k.fdiv 33554432 ∧ k.fdiv 33554432 < 32 := by
    rw [Int.fdiv_eq_ediv_of_nonneg _ (by decide)]; omega
  simp only [sixI, List.mem_cons, List.not_mem_nil, or_false] at hv
  rcases hv with rfl | rfl | rfl | rfl | rfl | rfl <;> constructor <;> first | assumption | exact f1.1 | exact f1.2
theorem back_ok {six : List Int} (h : FivesOk six) : FivesOk (stepB six) := by
  intro v hv
  have a0 := five_at h 0
  have a1 := five_at h 1
  have a2 := five_at h 2
  have a3 := five_at h 3
  have a4 := five_at h 4
  have a5 := five_at h 5
  have t := times_bound a5 (y := 17) (by decide)
  simp only [stepB, backI, List.mem_cons, List.not_mem_nil, or_false] at hv
  rcases hv with rfl | rfl | rfl | rfl | rfl | rfl
  · exact t
  all_goals exact xor5 (by assumption) (times_bound (by decide) t)
theorem backN_ok {six : List Int} (h : FivesOk six) (hl : six.length = 6) : ∀ n, FivesOk (backN n six) ∧ (backN n six).length = 6
  | 0 => ⟨h, hl⟩
  | n + 1 => ⟨back_ok (backN_ok h hl n).1, rfl⟩
theorem six_at {six : List Int} (hl : six.length = 6) : six = [six.getD 0 0, six.getD 1 0, six.getD 2 0, six.getD 3 0, six.getD 4 0, six.getD 5 0] := by
  match six, hl with
  | [_, _, _, _, _, _], _ => rfl
theorem law_D {w : World} {mean : ExcName → Option Value} {mg mb : Str → Option Value} {h₀ : Heap} {L fa : Addr} {cd : Value} {l Df Dx Dv Dh Dw Ds : Addr} {t1 t2 t3 t4 t5 t6 : Tok} {front : Str} {fives xs : List Int} {st : Int} {w1 w2 wv wh w6 : List Value} {n1 n2 nv nh n6 : Nat} {tb : Array Value}
    (hf : FrontOk front) (hfv : FivesOk fives) (hfl : fives.length ≤ 20) (hst : 0 ≤ st ∧ st ≤ fives.length) (hxl : xs.length = 6) (hxv : FivesOk xs) (I1 : IntsAre w1 fives) (I2 : IntsAre w2 xs) (hDf : Df ≠ 45) (hDx : Dx ≠ 45)
    (Iv : IntsAre wv (fives ++ createI front fives)) (Ih : IntsAre wh (overI (fives ++ createI front fives) st xs)) (hDv : Dv ≠ 45) (hDh : Dh ≠ 45) (htab : TabOk tb) (I6 : IntsAre w6 (sixI (leftI front (overI (fives ++ createI front fives) st xs)))) (hDs : Ds ≠ 45) :
    LawGo w mean mg mb 18 h₀ L fa cd [(Str.ofString "six", .ref Ds), (Str.ofString "left", .int (leftI front (overI (fives ++ createI front fives) st xs)) t6), (Str.ofString "want", .ref Dw), (Str.ofString "hurt", .ref Dh), (Str.ofString "values", .ref Dv), (Str.ofString "text", .str (textS front (fives ++ createI front fives)) t5),
      (Str.ofString "changes", .ref Dx), (Str.ofString "start", .int st t3), (Str.ofString "many", .int (fives.length : Int) t4), (Str.ofString "fives", .ref Df), (Str.ofString "front", .str front t1), (Str.ofString "size", .int (front.length : Int) t2), (Str.ofString "script", .ref l)]
      [(Ds, W.listOf w6.toArray n6), (Dh, W.listOf wh.toArray nh), (Dv, W.listOf wv.toArray nv), (Dx, W.listOf w2.toArray n2), (Df, W.listOf w1.toArray n1), (45, tabObj tb)] := by
  unfold LawGo
  k_fill
  intro s Q E B0 X0 T0 C0 l0 F N G hQ
  dsimp only [lawBody, lawFn, lawScope, lawEnv, PySem.Challenge.pw_fw0004_01, List.getLast?, List.getLast, Option.getD, List.drop]
  refine wpAny_noRaise ?_
  w_top off
  w_strict (
    have hcl := len_create front fives
    have hvv : FivesOk (fives ++ createI front fives) := fun v h => (List.mem_append.mp h).elim (hfv v) mem_create
    have hov := over_ok (st := st) hvv hxv
    have hlf := m_left hf hov
    have hs6 := six_ok hlf
    have h6l := I6.length
    have hsix := m_six (st := st) hf hfv hst.1 hst.2 hxl hxv
    generalize hX : sixI (leftI front (overI (fives ++ createI front fives) st xs)) = X at *
    have hX6 : X.length = 6 := by rw [← hX]; rfl
    (try k_fold)
    k_steps
    refine Halt.go ?_
    with_unfolding_all refine' For_invVF F ?k1 ?k2 ?_
    case k1 => exact rfl
    case k2 => exact rfl
    k_steps
    refine Halt.go ?_
    rename News _ _ _ _ => N4
    rename Fr _ _ _ _ => F4
    rename IsRange _ _ _ _ _ _ _ _ => R4
    refine' loop_new (n := ((fives.length : Int) - st).toNat) (fun i M nx => ∃ (Dn : Addr) (wn : List Value) (nn : Nat), M = kstB (fun _ => none) [(Str.ofString "six", .ref Dn), (Str.ofString "left", .int (leftI front (overI (fives ++ createI front fives) st xs)) t6), (Str.ofString "want", .ref Dw), (Str.ofString "hurt", .ref Dh), (Str.ofString "values", .ref Dv), (Str.ofString "text", .str (textS front (fives ++ createI front fives)) t5), (Str.ofString "changes", .ref Dx), (Str.ofString "start", .int st t3), (Str.ofString "many", .int (fives.length : Int) t4), (Str.ofString "fives", .ref Df), (Str.ofString "front", .str front t1), (Str.ofString "size", .int (front.length : Int) t2), (Str.ofString "script", .ref l)] ∧ nx = [(Dn, W.listOf wn.toArray nn), (Dh, W.listOf wh.toArray nh), (Dv, W.listOf wv.toArray nv), (Dx, W.listOf w2.toArray n2), (Df, W.listOf w1.toArray n1), (45, tabObj tb)] ∧ IntsAre wn (backN i X) ∧ Dn ≠ 45) ?hh2 R4 ?hsm2 ?hn2 ?F2 ?N2 ?hj2 ?turn2 ?done2
    case hh2 => exact rfl
    case hsm2 => exact small_up (by omega) (by omega)
    case hn2 => rw [rangeSize_nat]; congr 1; omega
    case F2 => exact F4
    case N2 => exact N4
    case hj2 => exact ⟨Ds, w6, n6, rfl, rfl, I6, hDs⟩
    case turn2 =>
      rintro i v M nx h tk ⟨Ia, Io⟩ hi ⟨Dn, wn, nn, rfl, rfl, hwn, hD⟩ hoff F5 N5
      clear F4 N4 R4
      have hb := backN_ok hs6 hX6 i
      have hst1 : backN (i + 1) X = stepB (backN i X) := rfl
      have x5 := five_at hb.1 5
      unfold stepB at hst1
      have e6 := six_at hb.2
      have h6n := hwn.length
      rw [hb.2] at h6n
      rw [e6] at hwn
      generalize (backN i X).getD 0 0 = y0 at *
      generalize (backN i X).getD 1 0 = y1 at *
      generalize (backN i X).getD 2 0 = y2 at *
      generalize (backN i X).getD 3 0 = y3 at *
      generalize (backN i X).getD 4 0 = y4 at *
      generalize (backN i X).getD 5 0 = y5 at *
      k_steps
      rename Fr _ _ _ _ => F7
      rename News _ _ _ _ => N7
      rename (_ ≠ _ ∧ _ ≠ _ ∧ _) => ho9
      refine ⟨_, _, fun z => if z = Str.ofString "turn" then some v else none, _, _, rfl, rfl, ?_, news_sub (b := [(Ia, Io), (_, W.listOf _ _), (Dh, W.listOf wh.toArray nh), (Dv, W.listOf wv.toArray nv), (Dx, W.listOf w2.toArray n2), (Df, W.listOf w1.toArray n1), (45, tabObj tb)]) N7 (by kcf_all), ?_, _, _, _, rfl, rfl, (by rw [hst1]; assumption), Ne.symm ho9.2.2.2.2.2.2⟩
      · refine fr_same ?_ F7
        intro z
        by_cases hz : z = Str.ofString "turn"
        · subst hz
          rfl
        · simp only [kstB, hz, if_false]
          by_cases hz6 : z = Str.ofString "six"
          · simp only [hz6, if_true]
          · simp only [hz6, if_false]
      · intro p hp
        rcases List.mem_cons.mp hp with hp | hp
        · rw [hp]; exact Ne.symm ho9.1
        · exact hoff p (List.mem_cons_of_mem _ hp)
    case done2 =>
      rintro u M nx h tk ⟨Dn, wn, nn, rfl, rfl, hwn, hD⟩ F5 N5
      clear F4 N4 R4
      rw [hsix] at hwn
      k_steps
      refine Halt.go ?_
      refine' law_E (l := l) (Dw := Dw) (t1 := t1) (t2 := t2) (t3 := t3) (t4 := t4) (t5 := t5) (t6 := t6) (m₀ := fun z => if z = Str.ofString "turn" then u z else none) hf hfv hfl hst hxl hxv I1 I2 hDf hDx Iv Ih hDv hDh htab hwn hD _ _ _ B0 X0 T0 C0 l0 ?bF N5 ?bG ?bQ
      case bF =>
        refine fr_same ?_ F5
        intro z
        by_cases hz : z = Str.ofString "turn"
        · subst hz
          rfl
        · simp only [kstB, hz, if_false]
      case bG => exact G
      case bQ => exact hQ)
end Mine
end
/-! part LC -/
section
-- the walk keeps its lines by their number alone: so the numbers of two parts that stand together must differ
local macro_rules | `(tactic| walk_at "pad 0") => `(tactic| fail)
local macro_rules | `(tactic| walk_at "pad 1") => `(tactic| fail)
local macro_rules | `(tactic| walk_at "pad 2") => `(tactic| fail)
local macro_rules | `(tactic| walk_at "pad 3") => `(tactic| fail)
local macro_rules | `(tactic| walk_at "pad 4") => `(tactic| fail)
local macro_rules | `(tactic| walk_at "pad 5") => `(tactic| fail)
local macro_rules | `(tactic| walk_at "pad 6") => `(tactic| fail)
local macro_rules | `(tactic| walk_at "pad 7") => `(tactic| fail)
local macro_rules | `(tactic| walk_at "pad 8") => `(tactic| fail)
local macro_rules | `(tactic| walk_at "pad 9") => `(tactic| fail)
local macro_rules | `(tactic| walk_at "pad 10") => `(tactic| fail)
local macro_rules | `(tactic| walk_at "pad 11") => `(tactic| fail)
local macro_rules | `(tactic| walk_at "pad 12") => `(tactic| fail)
local macro_rules | `(tactic| walk_at "pad 13") => `(tactic| fail)
local macro_rules | `(tactic| walk_at "pad 14") => `(tactic| fail)
local macro_rules | `(tactic| walk_at "pad 15") => `(tactic| fail)
local macro_rules | `(tactic| walk_at "pad 16") => `(tactic| fail)
local macro_rules | `(tactic| walk_at "pad 17") => `(tactic| fail)
local macro_rules | `(tactic| walk_at "pad 18") => `(tactic| fail)
local macro_rules | `(tactic| walk_at "pad 19") => `(tactic| fail)
local macro_rules | `(tactic| walk_at "pad 20") => `(tactic| fail)
local macro_rules | `(tactic| walk_at "pad 21") => `(tactic| fail)
local macro_rules | `(tactic| walk_at "pad 22") => `(tactic| fail)
local macro_rules | `(tactic| walk_at "pad 23") => `(tactic| fail)
local macro_rules | `(tactic| walk_at "pad 24") => `(tactic| fail)
local macro_rules | `(tactic| walk_at "pad 25") => `(tactic| fail)
local macro_rules | `(tactic| walk_at "pad 26") => `(tactic| fail)
local macro_rules | `(tactic| walk_at "pad 27") => `(tactic| fail)
local macro_rules | `(tactic| walk_at "pad 28") => `(tactic| fail)
local macro_rules | `(tactic| walk_at "pad 29") => `(tactic| fail)
open PySem PySem.W PyProof.Rows
set_option Elab.async false
set_option maxRecDepth 100000
set_option maxHeartbeats 8000000
set_option linter.unusedSimpArgs false
set_option linter.unusedVariables false
set_option pp.deepTerms false
set_option pp.deepTerms.threshold 20
set_option pp.proofs false
namespace Mine
local macro_rules | `(tactic| k_mem) => `(tactic| kcf_m)
-- a list of the ledger; a length; a list's copy; two lists joined
local macro_rules | `(tactic| is_list) => `(tactic| exact News.isList (by k_asm) (by k_mem))
local macro_rules | `(tactic| ktr_unf) => `(tactic| ((simp only [sizeLine_eq, List.size_toArray, List.length_append, List.length_cons, List.length_nil, List.length_map, len_expand, len_create]); omega))
local macro_rules | `(tactic| walk_at "call type:list") => `(tactic| (k_here; (with_reducible show wpAny _ _ (call (Value.type "list") [Value.ref _]) _ _ _); k_dflt (refine' list_copyK ?k1 ?k2 ?k3 ?_ ?z; (case k1 => k_asm); (case k2 => k_asm); (case k3 => is_list); (case z => ktr_unf); k_whole); intro D' c' h' F' N' l1; (try k_lt l1)))
local macro_rules | `(tactic| walk_at "binaryOp Add ref ref") => `(tactic| (k_here; (with_reducible show wpAny _ _ (binaryOp _ (Value.ref _) (Value.ref _)) _ _ _); k_dflt (refine' kmk_add_ints ?F ?N ?a ?b ?i ?j ?_ ?z; (case F => k_asm); (case N => k_asm); (case a => is_list); (case b => is_list); (case i => l_ints); (case j => l_ints); (case z => ktr_unf)); intro D' ws' h' F' N' l1 hI'; (try k_lt l1); (have hL' := IntsAre.length hI'); (try simp only [List.length_append, List.length_cons, List.length_nil, List.length_map, len_expand, len_create] at hL')))
-- the calls of what is shown above
local macro_rules | `(tactic| walk_at "call ref") => `(tactic| (k_here; k_dflt (refine' Con.use (poly_c ?hl ?hi) ?cuB ?cuF ?cuX ?cuN ?cuT ?cuk ?cud ?cuu ?_; (case cuF => k_asm); (case cuN => k_asm); (case hl => k_mem); (case hi => l_ints); (case cuB => k_asm); (case cuX => k_asm); (case cuT => k_asm); (case cuk => first | exact rfl | assumption); (case cud => ktr_room); (case cuu => ktr_units); intro t9 h9 tk9 F9 N9; (try dsimp only))))
local macro_rules | `(tactic| walk_at "call ref") => `(tactic| (k_here; k_dflt (refine' Con.use (expand_c ?hl) ?cuB ?cuF ?cuX ?cuN ?cuT ?cuk ?cud ?cuu ?_; (case cuF => k_asm); (case cuN => k_asm); (case hl => assumption); (case cuB => k_asm); (case cuX => k_asm); (case cuT => k_asm); (case cuk => first | exact rfl | assumption); (case cud => ktr_room); (case cuu => ktr_units); intro r9 ws9 n9 h9 tk9 I9 l9 F9 N9; (try simp only [LCg.Off1, and_true] at l9); (have hL' := IntsAre.length I9); (try simp only [len_expand, len_create] at hL'); (try dsimp only))))

local macro_rules | `(tactic| walk_at "call ref") => `(tactic| (k_here; k_dflt (refine' Con.use (create_c ?hl ?hm ?hi ?hs) ?cuB ?cuF ?cuX ?cuN ?cuT ?cuk ?cud ?cuu ?_; (case cuF => k_asm); (case cuN => k_asm); (case hl => assumption); (case hm => k_mem); (case hi => l_ints); (case hs => first | assumption | omega); (case cuB => k_asm); (case cuX => k_asm); (case cuT => k_asm); (case cuk => first | exact rfl | assumption); (case cud => ktr_room); (case cuu => ktr_units); intro r9 ws9 n9 h9 tk9 I9 l9 F9 N9; (try simp only [LCg.Off1, and_true] at l9); (have hL' := IntsAre.length I9); (try simp only [len_create] at hL'); (try dsimp only))))
local macro_rules | `(tactic| k_all) => `(tactic| first | exact all_ne_up (by assumption) | exact all_ne_up' (by assumption))
local macro_rules | `(tactic| walk_at "eval ListComp") => `(tactic| (k_here; refine Halt.mk ?_))
local macro_rules | `(tactic| walk_at "exec Assign cons ListComp") => `(tactic| (k_here; refine Halt.mk ?_))
local macro_rules | `(tactic| walk_at "CompSrc") => `(tactic| (k_here; refine Halt.mk ?_))
local macro_rules | `(tactic| walk_at "call ref") => `(tactic| (k_here; (k_dflt (show wpAny _ _ (call (Value.ref 48) _) _ _ _)); refine Halt.mk ?_))
local macro_rules | `(tactic| walk_at "call ref") => `(tactic| (k_here; k_dflt (refine' Con.use (encode_c ?hl ?hm ?hi ?hs ?hv) ?cuB ?cuF ?cuX ?cuN ?cuT ?cuk ?cud ?cuu ?_; (case cuF => k_asm); (case cuN => k_asm); (case hl => assumption); (case hm => k_mem); (case hi => l_ints); (case hs => first | assumption | omega); (case hv => assumption); (case cuB => k_asm); (case cuX => k_asm); (case cuT => k_asm); (case cuk => first | exact rfl | assumption); (case cud => ktr_room); (case cuu => ktr_units); intro t9 h9 tk9 F9 N9; (try dsimp only))))
local macro_rules | `(tactic| walk_at "call ref") => `(tactic| (k_here; k_dflt (refine' Con.use (text_c ?hl ?hm ?hi ?hs ?hv) ?cuB ?cuF ?cuX ?cuN ?cuT ?cuk ?cud ?cuu ?_; (case cuF => k_asm); (case cuN => k_asm); (case hl => assumption); (case hm => k_mem); (case hi => l_ints); (case hs => first | assumption | omega); (case hv => assumption); (case cuB => k_asm); (case cuX => k_asm); (case cuT => k_asm); (case cuk => first | exact rfl | assumption); (case cud => ktr_room); (case cuu => ktr_units); intro t9 h9 tk9 F9 N9; (try dsimp only))))
local macro_rules | `(tactic| walk_at "call ref") => `(tactic| (k_here; k_dflt (refine' Con.use (over_c ?hl ?hi ?hs ?hm ?hj ?ht ?h0 ?h1) ?cuB ?cuF ?cuX ?cuN ?cuT ?cuk ?cud ?cuu ?_; (case cuF => k_asm); (case cuN => k_asm); (case hl => k_mem); (case hi => l_ints); (case hs => first | assumption | omega); (case hm => k_mem); (case hj => l_ints); (case ht => assumption); (case h0 => first | assumption | omega); (case h1 => first | assumption | omega); (case cuB => k_asm); (case cuX => k_asm); (case cuT => k_asm); (case cuk => first | exact rfl | assumption); (case cud => ktr_room); (case cuu => ktr_units); intro r9 ws9 n9 h9 tk9 I9 l9 F9 N9; (try simp only [LCg.Off1, and_true] at l9); (have hL' := IntsAre.length I9); (try dsimp only))))

local macro_rules | `(tactic| walk_at "execs cons") => `(tactic| (k_here; (with_reducible show wpAny _ _ (execs [_, _, _, _, _] _) _ _ _); refine Halt.mk ?_))
theorem law_C {w : World} {mean : ExcName → Option Value} {mg mb : Str → Option Value} {h₀ : Heap} {L fa : Addr} {cd : Value} {l Df Dx Dv Dh Dw : Addr} {t1 t2 t3 t4 t5 : Tok} {front : Str} {fives xs : List Int} {st : Int} {w1 w2 wv wh : List Value} {n1 n2 nv nh : Nat} {tb : Array Value}
    (hf : FrontOk front) (hfv : FivesOk fives) (hfl : fives.length ≤ 20) (hst : 0 ≤ st ∧ st ≤ fives.length) (hxl : xs.length = 6) (hxv : FivesOk xs) (I1 : IntsAre w1 fives) (I2 : IntsAre w2 xs) (hDf : Df ≠ 45) (hDx : Dx ≠ 45)
    (Iv : IntsAre wv (fives ++ createI front fives)) (Ih : IntsAre wh (overI (fives ++ createI front fives) st xs)) (hDv : Dv ≠ 45) (hDh : Dh ≠ 45) (htab : TabOk tb) :
    LawGo w mean mg mb 15 h₀ L fa cd [(Str.ofString "want", .ref Dw), (Str.ofString "hurt", .ref Dh), (Str.ofString "values", .ref Dv), (Str.ofString "text", .str (textS front (fives ++ createI front fives)) t5),
      (Str.ofString "changes", .ref Dx), (Str.ofString "start", .int st t3), (Str.ofString "many", .int (fives.length : Int) t4), (Str.ofString "fives", .ref Df), (Str.ofString "front", .str front t1), (Str.ofString "size", .int (front.length : Int) t2), (Str.ofString "script", .ref l)]
      [(Dh, W.listOf wh.toArray nh), (Dv, W.listOf wv.toArray nv), (Dx, W.listOf w2.toArray n2), (Df, W.listOf w1.toArray n1), (45, tabObj tb)] := by
  unfold LawGo
  k_fill
  intro s Q E B0 X0 T0 C0 l0 F N G hQ
  dsimp only [lawBody, lawFn, lawScope, lawEnv, PySem.Challenge.pw_fw0004_01, List.getLast?, List.getLast, Option.getD, List.drop]
  w_top off
  w_strict (
    have hfl6 := hf.2.1
    have hfl1 := hf.1
    have hcl := len_create front fives
    have hvv : FivesOk (fives ++ createI front fives) := fun v h => (List.mem_append.mp h).elim (hfv v) mem_create
    have hvl : (fives ++ createI front fives).length = fives.length + 6 := by rw [List.length_append, hcl]
    have hst6 : st + 6 ≤ (fives ++ createI front fives).length := by omega
    have hov := over_ok (st := st) hvv hxv
    have hol := len_over (xs := xs) hst.1 hst6
    have hlf := m_left hf hov
    unfold leftI at hlf
    have h4l := Ih.length
    generalize hV : fives ++ createI front fives = V at *
    generalize hH : overI V st xs = H at *
    have hxl2 := len_expand front
    (try k_fold)
    k_steps
    refine Halt.go ?_
    rename Fr _ _ _ _ => F5
    rename News _ _ _ _ => N5
    subst hH
    subst hV
    refine' law_D (w6 := [_, _, _, _, _, _]) hf hfv hfl hst hxl hxv I1 I2 hDf hDx Iv Ih hDv hDh htab (IntsAre.cons _ _ (IntsAre.cons _ _ (IntsAre.cons _ _ (IntsAre.cons _ _ (IntsAre.cons _ _ (IntsAre.cons _ _ IntsAre.nil)))))) ?bd1 _ _ _ B0 X0 T0 C0 l0 ?bF ?bN ?bG ?bQ
    case bF => with_unfolding_all exact F5
    case bN => exact news_sub N5 (by kcf_all)
    case bG => exact G
    case bQ => exact hQ
    case bd1 => exact news_ne N5 (o1 := W.listOf _ _) (o2 := tabObj tb) (by kcf_m) (by kcf_m) (by intro q; cases q))
end Mine
end
/-! part LB2 -/
section
open PySem PySem.W PyProof.Rows
set_option Elab.async false
set_option maxRecDepth 100000
set_option maxHeartbeats 8000000
set_option linter.unusedSimpArgs false
set_option linter.unusedVariables false
set_option pp.deepTerms false
set_option pp.deepTerms.threshold 20
set_option pp.proofs false
namespace Mine
local macro_rules | `(tactic| k_mem) => `(tactic| kcf_m)
-- a list of the ledger; a length; a list's copy; two lists joined
local macro_rules | `(tactic| is_list) => `(tactic| exact News.isList (by k_asm) (by k_mem))
local macro_rules | `(tactic| ktr_unf) => `(tactic| ((simp only [sizeLine_eq, List.size_toArray, List.length_append, List.length_cons, List.length_nil, List.length_map, len_expand, len_create]); omega))
local macro_rules | `(tactic| walk_at "call type:list") => `(tactic| (k_here; (with_reducible show wpAny _ _ (call (Value.type "list") [Value.ref _]) _ _ _); k_dflt (refine' list_copyK ?k1 ?k2 ?k3 ?_ ?z; (case k1 => k_asm); (case k2 => k_asm); (case k3 => is_list); (case z => ktr_unf); k_whole); intro D' c' h' F' N' l1; (try k_lt l1)))
local macro_rules | `(tactic| walk_at "binaryOp Add ref ref") => `(tactic| (k_here; (with_reducible show wpAny _ _ (binaryOp _ (Value.ref _) (Value.ref _)) _ _ _); k_dflt (refine' kmk_add_ints ?F ?N ?a ?b ?i ?j ?_ ?z; (case F => k_asm); (case N => k_asm); (case a => is_list); (case b => is_list); (case i => l_ints); (case j => l_ints); (case z => ktr_unf)); intro D' ws' h' F' N' l1 hI'; (try k_lt l1); (have hL' := IntsAre.length hI'); (try simp only [List.length_append, List.length_cons, List.length_nil, List.length_map, len_expand, len_create] at hL')))
-- the calls of what is shown above
local macro_rules | `(tactic| walk_at "call ref") => `(tactic| (k_here; k_dflt (refine' Con.use (poly_c ?hl ?hi) ?cuB ?cuF ?cuX ?cuN ?cuT ?cuk ?cud ?cuu ?_; (case cuF => k_asm); (case cuN => k_asm); (case hl => k_mem); (case hi => l_ints); (case cuB => k_asm); (case cuX => k_asm); (case cuT => k_asm); (case cuk => first | exact rfl | assumption); (case cud => ktr_room); (case cuu => ktr_units); intro t9 h9 tk9 F9 N9; (try dsimp only))))
local macro_rules | `(tactic| walk_at "call ref") => `(tactic| (k_here; k_dflt (refine' Con.use (expand_c ?hl) ?cuB ?cuF ?cuX ?cuN ?cuT ?cuk ?cud ?cuu ?_; (case cuF => k_asm); (case cuN => k_asm); (case hl => assumption); (case cuB => k_asm); (case cuX => k_asm); (case cuT => k_asm); (case cuk => first | exact rfl | assumption); (case cud => ktr_room); (case cuu => ktr_units); intro r9 ws9 n9 h9 tk9 I9 l9 F9 N9; (try simp only [LCg.Off1, and_true] at l9); (have hL' := IntsAre.length I9); (try simp only [len_expand, len_create] at hL'); (try dsimp only))))

local macro_rules | `(tactic| walk_at "call ref") => `(tactic| (k_here; k_dflt (refine' Con.use (create_c ?hl ?hm ?hi ?hs) ?cuB ?cuF ?cuX ?cuN ?cuT ?cuk ?cud ?cuu ?_; (case cuF => k_asm); (case cuN => k_asm); (case hl => assumption); (case hm => k_mem); (case hi => l_ints); (case hs => first | assumption | omega); (case cuB => k_asm); (case cuX => k_asm); (case cuT => k_asm); (case cuk => first | exact rfl | assumption); (case cud => ktr_room); (case cuu => ktr_units); intro r9 ws9 n9 h9 tk9 I9 l9 F9 N9; (try simp only [LCg.Off1, and_true] at l9); (have hL' := IntsAre.length I9); (try simp only [len_create] at hL'); (try dsimp only))))
local macro_rules | `(tactic| k_all) => `(tactic| first | exact all_ne_up (by assumption) | exact all_ne_up' (by assumption))
local macro_rules | `(tactic| walk_at "eval ListComp") => `(tactic| (k_here; refine Halt.mk ?_))
local macro_rules | `(tactic| walk_at "exec Assign cons ListComp") => `(tactic| (k_here; refine Halt.mk ?_))
local macro_rules | `(tactic| walk_at "CompSrc") => `(tactic| (k_here; refine Halt.mk ?_))
local macro_rules | `(tactic| walk_at "call ref") => `(tactic| (k_here; (k_dflt (show wpAny _ _ (call (Value.ref 48) _) _ _ _)); refine Halt.mk ?_))
local macro_rules | `(tactic| walk_at "call ref") => `(tactic| (k_here; k_dflt (refine' Con.use (encode_c ?hl ?hm ?hi ?hs ?hv) ?cuB ?cuF ?cuX ?cuN ?cuT ?cuk ?cud ?cuu ?_; (case cuF => k_asm); (case cuN => k_asm); (case hl => assumption); (case hm => k_mem); (case hi => l_ints); (case hs => first | assumption | omega); (case hv => assumption); (case cuB => k_asm); (case cuX => k_asm); (case cuT => k_asm); (case cuk => first | exact rfl | assumption); (case cud => ktr_room); (case cuu => ktr_units); intro t9 h9 tk9 F9 N9; (try dsimp only))))
local macro_rules | `(tactic| walk_at "call ref") => `(tactic| (k_here; k_dflt (refine' Con.use (text_c ?hl ?hm ?hi ?hs ?hv) ?cuB ?cuF ?cuX ?cuN ?cuT ?cuk ?cud ?cuu ?_; (case cuF => k_asm); (case cuN => k_asm); (case hl => assumption); (case hm => k_mem); (case hi => l_ints); (case hs => first | assumption | omega); (case hv => assumption); (case cuB => k_asm); (case cuX => k_asm); (case cuT => k_asm); (case cuk => first | exact rfl | assumption); (case cud => ktr_room); (case cuu => ktr_units); intro t9 h9 tk9 F9 N9; (try dsimp only))))
local macro_rules | `(tactic| walk_at "call ref") => `(tactic| (k_here; k_dflt (refine' Con.use (over_c ?hl ?hi ?hs ?hm ?hj ?ht ?h0 ?h1) ?cuB ?cuF ?cuX ?cuN ?cuT ?cuk ?cud ?cuu ?_; (case cuF => k_asm); (case cuN => k_asm); (case hl => k_mem); (case hi => l_ints); (case hs => first | assumption | omega); (case hm => k_mem); (case hj => l_ints); (case ht => assumption); (case h0 => first | assumption | omega); (case h1 => first | assumption | omega); (case cuB => k_asm); (case cuX => k_asm); (case cuT => k_asm); (case cuk => first | exact rfl | assumption); (case cud => ktr_room); (case cuu => ktr_units); intro r9 ws9 n9 h9 tk9 I9 l9 F9 N9; (try simp only [LCg.Off1, and_true] at l9); (have hL' := IntsAre.length I9); (try dsimp only))))

local macro_rules | `(tactic| walk_at "execs cons") => `(tactic| (k_here; (with_reducible show wpAny _ _ (execs [_, _, _, _, _, _, _, _] _) _ _ _); refine Halt.mk ?_))
local macro_rules | `(tactic| walk_at "compareOp Eq ref ref") => `(tactic| (k_here; refine Halt.mk ?_))
local macro_rules | `(tactic| walk_at "compareOp NotEq ref ref") => `(tactic| (k_here; refine Halt.mk ?_))
local macro_rules | `(tactic| walk_at "compareOp In int ref") => `(tactic| (k_here; refine Halt.mk ?_))
theorem law_B2 {w : World} {mean : ExcName → Option Value} {mg mb : Str → Option Value} {h₀ : Heap} {L fa : Addr} {cd : Value} {l Df Dx Dv : Addr} {t1 t2 t3 t4 t5 : Tok} {front : Str} {fives xs : List Int} {st : Int} {w1 w2 wv : List Value} {n1 n2 nv : Nat}
    (hf : FrontOk front) (hfv : FivesOk fives) (hfl : fives.length ≤ 20) (hst : 0 ≤ st ∧ st ≤ fives.length) (hxl : xs.length = 6) (hxv : FivesOk xs) (I1 : IntsAre w1 fives) (I2 : IntsAre w2 xs) (hDf : Df ≠ 45) (hDx : Dx ≠ 45)
    (Iv : IntsAre wv (fives ++ createI front fives)) (hDv : Dv ≠ 45) :
    LawGo w mean mg mb 11 h₀ L fa cd [(Str.ofString "values", .ref Dv), (Str.ofString "text", .str (textS front (fives ++ createI front fives)) t5),
      (Str.ofString "changes", .ref Dx), (Str.ofString "start", .int st t3), (Str.ofString "many", .int (fives.length : Int) t4), (Str.ofString "fives", .ref Df), (Str.ofString "front", .str front t1), (Str.ofString "size", .int (front.length : Int) t2), (Str.ofString "script", .ref l)]
      [(Dv, W.listOf wv.toArray nv), (Dx, W.listOf w2.toArray n2), (Df, W.listOf w1.toArray n1), (45, tabObj #[])] := by
  unfold LawGo
  k_fill
  intro s Q E B0 X0 T0 C0 l0 F N G hQ
  dsimp only [lawBody, lawFn, lawScope, lawEnv, PySem.Challenge.pw_fw0004_01, List.getLast?, List.getLast, Option.getD, List.drop]
  w_top off
  w_strict (
    have h1l := I1.length
    have h2l := I2.length
    have hfl6 := hf.2.1
    have hfl1 := hf.1
    have hcl := len_create front fives
    have hvv : FivesOk (fives ++ createI front fives) := fun v h => (List.mem_append.mp h).elim (hfv v) mem_create
    have hvl : (fives ++ createI front fives).length = fives.length + 6 := by rw [List.length_append, hcl]
    have h3l := Iv.length
    (try k_fold)
    have hval := m_valid hf hfv
    have hhurt := m_hurt (st := st) (xs := xs) hf hfv hst.1 hst.2 hxl hxv
    have htake : List.take (fives.length : Int).toNat (fives ++ createI front fives) = fives := by rw [Int.toNat_natCast, List.take_left']; rfl
    have htak6 : List.take ((fives ++ createI front fives).length - 6) (fives ++ createI front fives) = fives := by rw [hvl, Nat.add_sub_cancel, List.take_left']; rfl
    generalize hV : fives ++ createI front fives = V at *
    k_steps
    refine Halt.go ?_
    rename News _ _ _ _ => N1
    refine ne_ints_same (News.isList N1 (by kcf_m)) (by assumption) (News.isList N1 (by kcf_m)) I1 (by units_room) htake ?_
    k_steps
    refine Halt.go ?_
    refine not_in_ints (News.isList N1 (by kcf_m)) Iv (fun v hv e => by have := hvv v hv; omega) ?_
    have hst6 : st + 6 ≤ V.length := by omega
    have hov := over_ok (st := st) hvv hxv
    have hol := len_over (xs := xs) hst.1 hst6
    generalize hH : overI V st xs = H at *
    k_steps
    refine Halt.go ?_
    rename IntsAre _ (overI V st xs) => IH
    rw [hH] at IH
    rename _ = (overI V st xs).length => hIHl
    rw [hH] at hIHl
    rename News _ _ _ _ => N2
    refine eq_ints_cases (News.isList N2 (by kcf_m)) IH (News.isList N2 (by kcf_m)) Iv (by units_room) (fun he => ?_) (fun hne => ?_)
    · have hvH : polyI (expandI front ++ H) = 1 := by rw [he]; exact hval
      k_steps
      refine Halt.go ?_
      rename Fr _ _ _ _ => F8
      rename News _ _ _ _ => N8
      have hoff := news_off (news_rot6 N8) (by k_dflt (repeat' apply And.intro); all_goals first | trivial | (intro q; cases q))
      k_dflt (refine' Con.use (decode_t (rest := [_, _, _, _, _, _]) hf hov ?dh6 ?dhs ?dhr ?dht) B0 F8 X0 (news_rot6 N8) T0 ?duk ?dud ?duu ?dur)
      case dh6 => omega
      case dhs => omega
      case dhr => exact hoff
      case dht => exact .inl rfl
      case duk => rfl
      case dud => ktr_room
      case duu => ktr_units
      refine ⟨C0, G, fun _ D8 l8 t8 ws8 n8 n8' tb s8 htb8 I8 o8 o8' F9 N9 G9 e9 => ?_, fun hn => absurd hvH hn⟩
      clear F8 N8
      k_steps
      refine Halt.go ?_
      refine ne_pairs hf (by rw [he]; exact htak6) (N9.get (by kcf_m)) (News.isList N9 (by kcf_m)) I8 (N9.get (by kcf_m)) (News.isList N9 (by kcf_m)) I1 (by units_room) ?_
      k_steps
      refine Halt.go ?_
      rename Fr _ _ _ _ => F5
      rename News _ _ _ _ => N5
      subst hH
      subst hV
      refine' law_C hf hfv hfl hst hxl hxv I1 I2 hDf hDx Iv IH hDv ?bd1 htb8 _ _ _ B0 X0 T0 C0 l0 ?bF ?bN ?bG ?bQ
      case bF => with_unfolding_all exact F5
      case bN => exact news_sub N5 (by kcf_all)
      case bG => exact G9
      case bQ => exact fun s' m' tb' hF' hN' hG' hO' => hQ s' m' tb' hF' hN' hG' (hO'.trans e9)
      case bd1 => exact hoff (_, W.listOf _ _) (by kcf_m)
    · have hvH := hhurt hne
      k_steps
      refine Halt.go ?_
      rename Fr _ _ _ _ => F8
      rename News _ _ _ _ => N8
      have hoff := news_off (news_rot6 N8) (by k_dflt (repeat' apply And.intro); all_goals first | trivial | (intro q; cases q))
      k_dflt (refine' Con.use (decode_t (rest := [_, _, _, _, _, _]) hf hov ?dh62 ?dhs2 ?dhr2 ?dht2) B0 F8 X0 (news_rot6 N8) T0 ?duk2 ?dud2 ?duu2 ?dur2)
      case dh62 => omega
      case dhs2 => omega
      case dhr2 => exact hoff
      case dht2 => exact .inl rfl
      case duk2 => rfl
      case dud2 => ktr_room
      case duu2 => ktr_units
      refine ⟨C0, G, fun hn => absurd hn hvH, fun _ D8 n8 tb s8 htb8 o8 F9 N9 G9 e9 => ?_⟩
      clear F8 N8
      k_steps
      refine Halt.go ?_
      refine ne_nones (N9.get (by kcf_m)) (N9.get (by kcf_m)) (by units_room) ?_
      k_steps
      refine Halt.go ?_
      rename Fr _ _ _ _ => F5
      rename News _ _ _ _ => N5
      subst hH
      subst hV
      refine' law_C hf hfv hfl hst hxl hxv I1 I2 hDf hDx Iv IH hDv ?bd12 htb8 _ _ _ B0 X0 T0 C0 l0 ?bF2 ?bN2 ?bG2 ?bQ2
      case bF2 => with_unfolding_all exact F5
      case bN2 => exact news_sub N5 (by kcf_all)
      case bG2 => exact G9
      case bQ2 => exact fun s' m' tb' hF' hN' hG' hO' => hQ s' m' tb' hF' hN' hG' (hO'.trans e9)
      case bd12 => exact hoff (_, W.listOf _ _) (by kcf_m))
end Mine
end
/-! part LB1 -/
section
-- the walk keeps its lines by their number alone: so the numbers of two parts that stand together must differ
local macro_rules | `(tactic| walk_at "pad 0") => `(tactic| fail)
local macro_rules | `(tactic| walk_at "pad 1") => `(tactic| fail)
local macro_rules | `(tactic| walk_at "pad 2") => `(tactic| fail)
local macro_rules | `(tactic| walk_at "pad 3") => `(tactic| fail)
local macro_rules | `(tactic| walk_at "pad 4") => `(tactic| fail)
local macro_rules | `(tactic| walk_at "pad 5") => `(tactic| fail)
local macro_rules | `(tactic| walk_at "pad 6") => `(tactic| fail)
local macro_rules | `(tactic| walk_at "pad 7") => `(tactic| fail)
local macro_rules | `(tactic| walk_at "pad 8") => `(tactic| fail)
local macro_rules | `(tactic| walk_at "pad 9") => `(tactic| fail)
local macro_rules | `(tactic| walk_at "pad 10") => `(tactic| fail)
local macro_rules | `(tactic| walk_at "pad 11") => `(tactic| fail)
local macro_rules | `(tactic| walk_at "pad 12") => `(tactic| fail)
local macro_rules | `(tactic| walk_at "pad 13") => `(tactic| fail)
local macro_rules | `(tactic| walk_at "pad 14") => `(tactic| fail)
local macro_rules | `(tactic| walk_at "pad 15") => `(tactic| fail)
local macro_rules | `(tactic| walk_at "pad 16") => `(tactic| fail)
local macro_rules | `(tactic| walk_at "pad 17") => `(tactic| fail)
local macro_rules | `(tactic| walk_at "pad 18") => `(tactic| fail)
local macro_rules | `(tactic| walk_at "pad 19") => `(tactic| fail)
local macro_rules | `(tactic| walk_at "pad 20") => `(tactic| fail)
local macro_rules | `(tactic| walk_at "pad 21") => `(tactic| fail)
local macro_rules | `(tactic| walk_at "pad 22") => `(tactic| fail)
local macro_rules | `(tactic| walk_at "pad 23") => `(tactic| fail)
local macro_rules | `(tactic| walk_at "pad 24") => `(tactic| fail)
local macro_rules | `(tactic| walk_at "pad 25") => `(tactic| fail)
local macro_rules | `(tactic| walk_at "pad 26") => `(tactic| fail)
local macro_rules | `(tactic| walk_at "pad 27") => `(tactic| fail)
local macro_rules | `(tactic| walk_at "pad 28") => `(tactic| fail)
local macro_rules | `(tactic| walk_at "pad 29") => `(tactic| fail)
open PySem PySem.W PyProof.Rows
set_option Elab.async false
set_option maxRecDepth 100000
set_option maxHeartbeats 8000000
set_option linter.unusedSimpArgs false
set_option linter.unusedVariables false
set_option pp.deepTerms false
set_option pp.deepTerms.threshold 20
set_option pp.proofs false
namespace Mine
local macro_rules | `(tactic| k_mem) => `(tactic| kcf_m)
-- a list of the ledger; a length; a list's copy; two lists joined
local macro_rules | `(tactic| is_list) => `(tactic| exact News.isList (by k_asm) (by k_mem))
local macro_rules | `(tactic| ktr_unf) => `(tactic| ((simp only [sizeLine_eq, List.size_toArray, List.length_append, List.length_cons, List.length_nil, List.length_map, len_expand, len_create]); omega))
local macro_rules | `(tactic| walk_at "call type:list") => `(tactic| (k_here; (with_reducible show wpAny _ _ (call (Value.type "list") [Value.ref _]) _ _ _); k_dflt (refine' list_copyK ?k1 ?k2 ?k3 ?_ ?z; (case k1 => k_asm); (case k2 => k_asm); (case k3 => is_list); (case z => ktr_unf); k_whole); intro D' c' h' F' N' l1; (try k_lt l1)))
local macro_rules | `(tactic| walk_at "binaryOp Add ref ref") => `(tactic| (k_here; (with_reducible show wpAny _ _ (binaryOp _ (Value.ref _) (Value.ref _)) _ _ _); k_dflt (refine' kmk_add_ints ?F ?N ?a ?b ?i ?j ?_ ?z; (case F => k_asm); (case N => k_asm); (case a => is_list); (case b => is_list); (case i => l_ints); (case j => l_ints); (case z => ktr_unf)); intro D' ws' h' F' N' l1 hI'; (try k_lt l1); (have hL' := IntsAre.length hI'); (try simp only [List.length_append, List.length_cons, List.length_nil, List.length_map, len_expand, len_create] at hL')))
-- the calls of what is shown above
local macro_rules | `(tactic| walk_at "call ref") => `(tactic| (k_here; k_dflt (refine' Con.use (poly_c ?hl ?hi) ?cuB ?cuF ?cuX ?cuN ?cuT ?cuk ?cud ?cuu ?_; (case cuF => k_asm); (case cuN => k_asm); (case hl => k_mem); (case hi => l_ints); (case cuB => k_asm); (case cuX => k_asm); (case cuT => k_asm); (case cuk => first | exact rfl | assumption); (case cud => ktr_room); (case cuu => ktr_units); intro t9 h9 tk9 F9 N9; (try dsimp only))))
local macro_rules | `(tactic| walk_at "call ref") => `(tactic| (k_here; k_dflt (refine' Con.use (expand_c ?hl) ?cuB ?cuF ?cuX ?cuN ?cuT ?cuk ?cud ?cuu ?_; (case cuF => k_asm); (case cuN => k_asm); (case hl => assumption); (case cuB => k_asm); (case cuX => k_asm); (case cuT => k_asm); (case cuk => first | exact rfl | assumption); (case cud => ktr_room); (case cuu => ktr_units); intro r9 ws9 n9 h9 tk9 I9 l9 F9 N9; (try simp only [LCg.Off1, and_true] at l9); (have hL' := IntsAre.length I9); (try simp only [len_expand, len_create] at hL'); (try dsimp only))))

local macro_rules | `(tactic| walk_at "call ref") => `(tactic| (k_here; k_dflt (refine' Con.use (create_c ?hl ?hm ?hi ?hs) ?cuB ?cuF ?cuX ?cuN ?cuT ?cuk ?cud ?cuu ?_; (case cuF => k_asm); (case cuN => k_asm); (case hl => assumption); (case hm => k_mem); (case hi => l_ints); (case hs => first | assumption | omega); (case cuB => k_asm); (case cuX => k_asm); (case cuT => k_asm); (case cuk => first | exact rfl | assumption); (case cud => ktr_room); (case cuu => ktr_units); intro r9 ws9 n9 h9 tk9 I9 l9 F9 N9; (try simp only [LCg.Off1, and_true] at l9); (have hL' := IntsAre.length I9); (try simp only [len_create] at hL'); (try dsimp only))))
local macro_rules | `(tactic| k_all) => `(tactic| first | exact all_ne_up (by assumption) | exact all_ne_up' (by assumption))
local macro_rules | `(tactic| walk_at "eval ListComp") => `(tactic| (k_here; refine Halt.mk ?_))
local macro_rules | `(tactic| walk_at "exec Assign cons ListComp") => `(tactic| (k_here; refine Halt.mk ?_))
local macro_rules | `(tactic| walk_at "CompSrc") => `(tactic| (k_here; refine Halt.mk ?_))
local macro_rules | `(tactic| walk_at "call ref") => `(tactic| (k_here; (k_dflt (show wpAny _ _ (call (Value.ref 48) _) _ _ _)); refine Halt.mk ?_))
local macro_rules | `(tactic| walk_at "call ref") => `(tactic| (k_here; k_dflt (refine' Con.use (encode_c ?hl ?hm ?hi ?hs ?hv) ?cuB ?cuF ?cuX ?cuN ?cuT ?cuk ?cud ?cuu ?_; (case cuF => k_asm); (case cuN => k_asm); (case hl => assumption); (case hm => k_mem); (case hi => l_ints); (case hs => first | assumption | omega); (case hv => assumption); (case cuB => k_asm); (case cuX => k_asm); (case cuT => k_asm); (case cuk => first | exact rfl | assumption); (case cud => ktr_room); (case cuu => ktr_units); intro t9 h9 tk9 F9 N9; (try dsimp only))))
local macro_rules | `(tactic| walk_at "call ref") => `(tactic| (k_here; k_dflt (refine' Con.use (text_c ?hl ?hm ?hi ?hs ?hv) ?cuB ?cuF ?cuX ?cuN ?cuT ?cuk ?cud ?cuu ?_; (case cuF => k_asm); (case cuN => k_asm); (case hl => assumption); (case hm => k_mem); (case hi => l_ints); (case hs => first | assumption | omega); (case hv => assumption); (case cuB => k_asm); (case cuX => k_asm); (case cuT => k_asm); (case cuk => first | exact rfl | assumption); (case cud => ktr_room); (case cuu => ktr_units); intro t9 h9 tk9 F9 N9; (try dsimp only))))
local macro_rules | `(tactic| walk_at "call ref") => `(tactic| (k_here; k_dflt (refine' Con.use (over_c ?hl ?hi ?hs ?hm ?hj ?ht ?h0 ?h1) ?cuB ?cuF ?cuX ?cuN ?cuT ?cuk ?cud ?cuu ?_; (case cuF => k_asm); (case cuN => k_asm); (case hl => k_mem); (case hi => l_ints); (case hs => first | assumption | omega); (case hm => k_mem); (case hj => l_ints); (case ht => assumption); (case h0 => first | assumption | omega); (case h1 => first | assumption | omega); (case cuB => k_asm); (case cuX => k_asm); (case cuT => k_asm); (case cuk => first | exact rfl | assumption); (case cud => ktr_room); (case cuu => ktr_units); intro r9 ws9 n9 h9 tk9 I9 l9 F9 N9; (try simp only [LCg.Off1, and_true] at l9); (have hL' := IntsAre.length I9); (try dsimp only))))

local macro_rules | `(tactic| walk_at "execs cons") => `(tactic| (k_here; (with_reducible show wpAny _ _ (execs [_, _, _, _, _, _, _, _, _, _, _, _] _) _ _ _); refine Halt.mk ?_))
theorem text_slice_one {f : Str} {vs : List Int} : Txt.slice (textS f vs) none (some ((f.length : Int) + 1)) = f ++ Str.ofString "1" := by
  have hl := text_codes f vs
  have h := eq_of_beq (slice_closes_to (x := textS f vs) (j := (f.length : Int) + 1) ⟨by omega, by rw [hl, List.length_append, ← len_codes, List.length_cons]; omega⟩)
  rw [h]
  refine str_ext ?_
  show ((List.drop (0 : Int).toNat _).take ((f.length : Int) + 1 - 0).toNat) = _
  rw [hl, show (0 : Int).toNat = 0 from rfl, List.drop_zero, show ((f.length : Int) + 1 - 0).toNat = f.cps.toList.length + 1 by rw [← len_codes]; omega, List.take_append, List.take_of_length_le (by omega), Nat.add_sub_cancel_left, Str.cps_append, Array.toList_append]
  rfl
theorem law_B {w : World} {mean : ExcName → Option Value} {mg mb : Str → Option Value} {h₀ : Heap} {L fa : Addr} {cd : Value} {l Df Dx : Addr} {t1 t2 t3 t4 : Tok} {front : Str} {fives xs : List Int} {st : Int} {w1 w2 : List Value} {n1 n2 : Nat}
    (hf : FrontOk front) (hfv : FivesOk fives) (hfl : fives.length ≤ 20) (hst : 0 ≤ st ∧ st ≤ fives.length) (hxl : xs.length = 6) (hxv : FivesOk xs) (I1 : IntsAre w1 fives) (I2 : IntsAre w2 xs) (hDf : Df ≠ 45) (hDx : Dx ≠ 45) :
    LawGo w mean mg mb 8 h₀ L fa cd [(Str.ofString "changes", .ref Dx), (Str.ofString "start", .int st t3), (Str.ofString "many", .int (fives.length : Int) t4), (Str.ofString "fives", .ref Df), (Str.ofString "front", .str front t1), (Str.ofString "size", .int (front.length : Int) t2), (Str.ofString "script", .ref l)]
      [(Dx, W.listOf w2.toArray n2), (Df, W.listOf w1.toArray n1), (45, tabObj #[])] := by
  unfold LawGo
  k_fill
  intro s Q E B0 X0 T0 C0 l0 F N G hQ
  dsimp only [lawBody, lawFn, lawScope, lawEnv, PySem.Challenge.pw_fw0004_01, List.getLast?, List.getLast, Option.getD, List.drop]
  w_top off
  w_strict (
    have h1l := I1.length
    have h2l := I2.length
    have hfl6 := hf.2.1
    have hfl1 := hf.1
    have hcl := len_create front fives
    have htl : (textS front (fives ++ createI front fives)).length = front.length + 1 + (fives.length + 6) := by rw [len_text, List.length_append, hcl]
    have htl7 : (textS front (fives ++ createI front fives)).length ≤ 60 := by omega
    (try k_fold)
    k_steps
    · exfalso; omega
    · exfalso
      rename ((_ != _) = true) => hne
      rw [text_slice_one] at hne
      simp at hne
    refine Halt.go ?_
    rename Fr _ _ _ _ => F1
    k_dflt (refine' Assign_ListComp_S F1 ?a1 ?a2 ?a3 ?a4 ?a5 ?a6 ?a7 ?a8 ?a9 ?_; (case a1 => rfl); (case a2 => with_unfolding_all rfl); (case a3 => with_unfolding_all rfl); (case a4 => decide); (case a5 => rfl); (case a6 => decide); (case a7 => rfl); (case a8 => rfl); (case a9 => rfl))
    k_steps
    rename News _ _ _ _ => N2
    rename Fr _ _ _ _ => F2
    have hvv : FivesOk (fives ++ createI front fives) := fun v h => (List.mem_append.mp h).elim (hfv v) mem_create
    have hvl : (fives ++ createI front fives).length = fives.length + 6 := by rw [List.length_append, hcl]
    have hd := text_slice_from (f := front) (vs := fives ++ createI front fives)
    refine ⟨_, _, _, rfl, rfl, F2, N2, ?_, fun s₂ hs₂ => ?_⟩
    · rw [PySem.sizeLine_eq]
      show (Txt.slice (textS front (fives ++ createI front fives)) (some ((front.length : Int) + 1)) none).length ≤ _
      rw [len_codes, hd, List.length_map]; omega
    obtain ⟨g2, rfl⟩ := hs₂
    refine cs_rest (fun k => Txt.find (PySem.Str.ofString "qpzry9x8gf2tvdw0s3jn54khce6mua7l") ⟨#[k]⟩) ?_ ?_
    · intro k t I oI C oC D m₂ ys h tk E' hk hC hx F2 N2 off ne
      k_steps
      all_goals exact ⟨rfl, _, rfl⟩
    · intro ys hy
      have hy2 : IntsAre ys (fives ++ createI front fives) := by
        have e := find_fives hvv hd
        unfold findI at e
        rw [← e]
        exact hy
      clear hy F2 N2
      have hyl := hy2.length
      k_steps
      refine Halt.go ?_
      rename Fr _ _ _ _ => F5
      rename News _ _ _ _ => N5
      refine' law_B2 hf hfv hfl hst hxl hxv I1 I2 hDf hDx hy2 ?bd1 _ _ _ B0 X0 T0 C0 l0 ?bF ?bN ?bG ?bQ
      case bF => with_unfolding_all exact F5
      case bN => exact news_sub N5 (by kcf_all)
      case bG => exact G
      case bQ => exact hQ
      case bd1 => exact news_ne N5 (o1 := LCg.lst ys) (o2 := tabObj #[]) (by kcf_m) (by kcf_m) (by intro q; cases q))
end Mine
end
/-! part LA -/
section
open PySem PySem.W PyProof.Rows
set_option Elab.async false
set_option maxRecDepth 100000
set_option maxHeartbeats 8000000
set_option linter.unusedSimpArgs false
set_option linter.unusedVariables false
set_option pp.deepTerms false
set_option pp.deepTerms.threshold 20
set_option pp.proofs false
namespace Mine
local macro_rules | `(tactic| k_mem) => `(tactic| kcf_m)
-- a list of the ledger; a length; a list's copy; two lists joined
local macro_rules | `(tactic| is_list) => `(tactic| exact News.isList (by k_asm) (by k_mem))
local macro_rules | `(tactic| ktr_unf) => `(tactic| ((simp only [sizeLine_eq, List.size_toArray, List.length_append, List.length_cons, List.length_nil, List.length_map, len_expand, len_create]); omega))
local macro_rules | `(tactic| walk_at "call type:list") => `(tactic| (k_here; (with_reducible show wpAny _ _ (call (Value.type "list") [Value.ref _]) _ _ _); k_dflt (refine' list_copyK ?k1 ?k2 ?k3 ?_ ?z; (case k1 => k_asm); (case k2 => k_asm); (case k3 => is_list); (case z => ktr_unf); k_whole); intro D' c' h' F' N' l1; (try k_lt l1)))
local macro_rules | `(tactic| walk_at "binaryOp Add ref ref") => `(tactic| (k_here; (with_reducible show wpAny _ _ (binaryOp _ (Value.ref _) (Value.ref _)) _ _ _); k_dflt (refine' kmk_add_ints ?F ?N ?a ?b ?i ?j ?_ ?z; (case F => k_asm); (case N => k_asm); (case a => is_list); (case b => is_list); (case i => l_ints); (case j => l_ints); (case z => ktr_unf)); intro D' ws' h' F' N' l1 hI'; (try k_lt l1); (have hL' := IntsAre.length hI'); (try simp only [List.length_append, List.length_cons, List.length_nil, List.length_map, len_expand, len_create] at hL')))
-- the calls of what is shown above
local macro_rules | `(tactic| walk_at "call ref") => `(tactic| (k_here; k_dflt (refine' Con.use (poly_c ?hl ?hi) ?cuB ?cuF ?cuX ?cuN ?cuT ?cuk ?cud ?cuu ?_; (case cuF => k_asm); (case cuN => k_asm); (case hl => k_mem); (case hi => l_ints); (case cuB => k_asm); (case cuX => k_asm); (case cuT => k_asm); (case cuk => first | exact rfl | assumption); (case cud => ktr_room); (case cuu => ktr_units); intro t9 h9 tk9 F9 N9; (try dsimp only))))
local macro_rules | `(tactic| walk_at "call ref") => `(tactic| (k_here; k_dflt (refine' Con.use (expand_c ?hl) ?cuB ?cuF ?cuX ?cuN ?cuT ?cuk ?cud ?cuu ?_; (case cuF => k_asm); (case cuN => k_asm); (case hl => assumption); (case cuB => k_asm); (case cuX => k_asm); (case cuT => k_asm); (case cuk => first | exact rfl | assumption); (case cud => ktr_room); (case cuu => ktr_units); intro r9 ws9 n9 h9 tk9 I9 l9 F9 N9; (try simp only [LCg.Off1, and_true] at l9); (have hL' := IntsAre.length I9); (try simp only [len_expand, len_create] at hL'); (try dsimp only))))

local macro_rules | `(tactic| walk_at "call ref") => `(tactic| (k_here; k_dflt (refine' Con.use (create_c ?hl ?hm ?hi ?hs) ?cuB ?cuF ?cuX ?cuN ?cuT ?cuk ?cud ?cuu ?_; (case cuF => k_asm); (case cuN => k_asm); (case hl => assumption); (case hm => k_mem); (case hi => l_ints); (case hs => first | assumption | omega); (case cuB => k_asm); (case cuX => k_asm); (case cuT => k_asm); (case cuk => first | exact rfl | assumption); (case cud => ktr_room); (case cuu => ktr_units); intro r9 ws9 n9 h9 tk9 I9 l9 F9 N9; (try simp only [LCg.Off1, and_true] at l9); (have hL' := IntsAre.length I9); (try simp only [len_create] at hL'); (try dsimp only))))
local macro_rules | `(tactic| k_all) => `(tactic| first | exact all_ne_up (by assumption) | exact all_ne_up' (by assumption))

local macro_rules | `(tactic| walk_at "eval ListComp") => `(tactic| (k_here; refine Halt.mk ?_))
local macro_rules | `(tactic| walk_at "exec Assign cons ListComp") => `(tactic| (k_here; refine Halt.mk ?_))
local macro_rules | `(tactic| walk_at "CompSrc") => `(tactic| (k_here; refine Halt.mk ?_))
local macro_rules | `(tactic| walk_at "execs cons") => `(tactic| (k_here; (with_reducible show wpAny _ _ (execs [_, _, _, _, _, _, _, _, _, _, _, _, _, _, _] _) _ _ _); refine Halt.mk ?_))
theorem fives_ok (xs : List Int) : FivesOk (xs.map fun k => (k.fdiv 3).fmod 32) := by
  intro v h
  obtain ⟨k, _, rfl⟩ := List.mem_map.mp h
  exact ⟨fmod_lo _ (n := 32) (by decide), fmod_hi _ (n := 32) (by decide)⟩
def TW : List Int := [1, 2, 4, 8, 16, 32]
def chgI (row : List Int) (k : Int) : Int := if ((((row.getD (Int.toNat 0) 0).fdiv 6).fmod 64).fdiv (TW.getD k.toNat 0)).fmod 2 = 0 then 0 else 1 + ((row.getD ((k + 1).fmod (row.length : Int)).toNat 0).fdiv 5).fmod 31
theorem tw_pos {k : Int} (h0 : 0 ≤ k) (h1 : k < 0 + ((6 : Nat) : Int)) : 0 < [1, 2, 4, 8, 16, 32].getD k.toNat (0 : Int) ∧ [1, 2, 4, 8, 16, 32].getD k.toNat (0 : Int) ≤ 32 := by
  have h : k = 0 ∨ k = 1 ∨ k = 2 ∨ k = 3 ∨ k = 4 ∨ k = 5 := by omega
  rcases h with rfl | rfl | rfl | rfl | rfl | rfl <;> decide
theorem div_by {prog : Program} {w : World} {A : Around} {E : Value → Shared → Prop} {s : Shared} {a b : Int} {t u : Tok} {Q : Value → Shared → Prop} (hb : 0 < b ∧ b ≤ 32) (h : Q (.int (a.fdiv b) s.toks) { s with toks := s.toks + 1 }) :
    wpAny (model prog w) A (binaryOp .FloorDiv (.int a t) (.int b u)) Q E s := floordiv_int (by omega) h (.inl (PyProof.noPylong_small (by omega)))
local macro_rules | `(tactic| walk_at "binaryOp FloorDiv int int") => `(tactic| (k_here; k_dflt (refine div_by (by assumption) ?_)))
theorem chg_ok (row : List Int) : FivesOk ((rangeKs 0 6).map (chgI row)) := by
  intro v h
  obtain ⟨k, _, rfl⟩ := List.mem_map.mp h
  unfold chgI
  have h0 := fmod_lo ((row.getD ((k + 1).fmod (row.length : Int)).toNat 0).fdiv 5) (n := 31) (by decide)
  have h1 := fmod_hi ((row.getD ((k + 1).fmod (row.length : Int)).toNat 0).fdiv 5) (n := 31) (by decide)
  split <;> omega
theorem start_ok (x : Int) (fives : List Int) : 0 ≤ x.fmod ((fives.length : Int) + 1) ∧ x.fmod ((fives.length : Int) + 1) ≤ fives.length := by
  have h0 := fmod_lo x (n := (fives.length : Int) + 1) (by omega)
  have h1 := fmod_hi x (n := (fives.length : Int) + 1) (by omega)
  omega
theorem law_A {w : World} {mean : ExcName → Option Value} {mg mb : Str → Option Value} {h₀ : Heap} {L fa : Addr} {cd : Value} {l D : Addr} {t1 t2 : Tok} {front : Str} {row : List Int} {wr : List Value} {oM oR : Obj}
    (hf : FrontOk front) (hr0 : 2 ≤ row.length ∧ row.length ≤ 42) (hrv : ∀ x ∈ row, 0 ≤ x ∧ x < 9973) (hI : IntsAre wr row) (hM : oM.data = .cell none) (hR : oR.data = .cell (some (.ref D))) (hD : L + 1 + 1 < D) :
    LawGo w mean mg mb 3 h₀ L fa cd [(Str.ofString "front", .str front t1), (Str.ofString "size", .int (front.length : Int) t2), (Str.ofString "script", .ref l)]
      [(D, W.listOf wr.toArray 0), (L + 1 + 1, oM), (L + 1, oR), (45, tabObj #[])] := by
  unfold LawGo
  k_fill
  intro s Q E B0 X0 T0 C0 l0 F N G hQ
  dsimp only [lawBody, lawFn, lawScope, lawEnv, PySem.Challenge.pw_fw0004_01, List.getLast?, List.getLast, Option.getD, List.drop]
  w_top off
  w_strict (
    have hIl := hI.length
    (try k_fold)
    k_steps
    refine Halt.go ?_
    rename Fr _ _ _ _ => F1
    k_dflt (refine LCg.Assign_ListComp_U (F₀ := F1) (by rfl) (by with_unfolding_all rfl) (by with_unfolding_all rfl) (by decide) (by rfl) (by decide) (by rfl) (by rfl) (by rfl) ?_)
    k_steps
    refine Halt.go ?_
    rename Fr _ _ _ _ => F2
    rename News _ _ _ _ => N2
    rename IntsAre _ (List.take _ (List.drop _ _)) => I2
    have hlen2 := I2.length
    generalize hxs : List.take (min 22 row.length - 2) (List.drop 2 row) = xs at *
    have hxl : xs.length ≤ 20 := by rw [← hxs, List.length_take, List.length_drop]; omega
    refine LCg.CompSrc.ledger (by rfl) F2 N2 (by kcf_m) (by rw [PySem.sizeLine_eq, List.size_toArray]; omega) ?_
    intro g2
    refine' kcf_list (fun k => (k.fdiv 3).fmod 32) I2 (fun k' t' I' oI' C' oC' D' m' ys' h' tk' E' hk' hC' hx' F' N' off' ne' hM' => ?_) ?_
    · clear F2 N2
      (try (simp only [LCg.Off3, and_true] at off'))
      k_steps
    · intro ys hy
      have hfv := fives_ok xs
      have hfl : (xs.map fun k => (k.fdiv 3).fmod 32).length ≤ 20 := by rw [List.length_map]; exact hxl
      generalize hfs : (xs.map fun k => (k.fdiv 3).fmod 32) = fives at *
      have hyl2 := hy.length
      k_steps
      refine Halt.go ?_
      (try dsimp only at *)
      rename Fr _ _ _ _ => F3
      k_dflt (refine LCg.Assign_ListComp_U (F₀ := F3) (by rfl) (by with_unfolding_all rfl) (by with_unfolding_all rfl) (by decide) (by rfl) (by decide) (by rfl) (by rfl) (by rfl) ?_)
      k_steps
      refine Halt.go ?_
      rename Fr _ _ _ _ => F4
      rename News _ _ _ _ => N4
      rename IsRange _ _ _ _ _ _ _ _ => R4
      refine LCg.CompSrc.range (n := 6) (by rfl) F4 N4 R4 (by decide) (by rfl) (by rw [PySem.sizeLine_eq]; omega) ?_
      intro g4
      refine' kcf_range (chgI row) (fun k' t' I' oI' C' oC' D' m' ys' h' tk' E' hlo' hhi' hC' hx' F' N' off' ne' hM' => ?_) ?_
      · clear F4 N4 R4
        (try (simp only [LCg.Off3, and_true] at off'))
        have htw := tw_pos hlo' hhi'
        k_steps
      · intro ys3 hy3
        have hyl3 := hy3.length
        k_steps
        refine Halt.go ?_
        rename Fr _ _ _ _ => F5
        rename News _ _ _ _ => N5
        have hchg := chg_ok row
        have hst := start_ok (row.getD (Int.toNat 1) 0) fives
        refine' law_B (n1 := ys.length) (n2 := ys3.length) hf hfv hfl hst (by rw [List.length_map, rangeKs_length]) hchg hy hy3 ?bd1 ?bd2 _ _ _ B0 X0 T0 C0 l0 ?bF ?bN ?bG ?bQ
        case bF => with_unfolding_all exact F5
        case bN => exact news_sub N5 (by kcf_all)
        case bG => exact G
        case bQ => exact hQ
        case bd1 => exact news_ne N5 (o1 := LCg.lst ys) (o2 := tabObj #[]) (by kcf_m) (by kcf_m) (by intro q; cases q)
        case bd2 => exact news_ne N5 (o1 := LCg.lst ys3) (o2 := tabObj #[]) (by kcf_m) (by kcf_m) (by intro q; cases q))
end Mine
end
/-! part L1 -/
section
-- the walk keeps its lines by their number alone: so the numbers of two parts that stand together must differ
local macro_rules | `(tactic| walk_at "pad 0") => `(tactic| fail)
local macro_rules | `(tactic| walk_at "pad 1") => `(tactic| fail)
local macro_rules | `(tactic| walk_at "pad 2") => `(tactic| fail)
local macro_rules | `(tactic| walk_at "pad 3") => `(tactic| fail)
local macro_rules | `(tactic| walk_at "pad 4") => `(tactic| fail)
local macro_rules | `(tactic| walk_at "pad 5") => `(tactic| fail)
local macro_rules | `(tactic| walk_at "pad 6") => `(tactic| fail)
local macro_rules | `(tactic| walk_at "pad 7") => `(tactic| fail)
local macro_rules | `(tactic| walk_at "pad 8") => `(tactic| fail)
local macro_rules | `(tactic| walk_at "pad 9") => `(tactic| fail)
local macro_rules | `(tactic| walk_at "pad 10") => `(tactic| fail)
local macro_rules | `(tactic| walk_at "pad 11") => `(tactic| fail)
local macro_rules | `(tactic| walk_at "pad 12") => `(tactic| fail)
local macro_rules | `(tactic| walk_at "pad 13") => `(tactic| fail)
local macro_rules | `(tactic| walk_at "pad 14") => `(tactic| fail)
local macro_rules | `(tactic| walk_at "pad 15") => `(tactic| fail)
local macro_rules | `(tactic| walk_at "pad 16") => `(tactic| fail)
local macro_rules | `(tactic| walk_at "pad 17") => `(tactic| fail)
local macro_rules | `(tactic| walk_at "pad 18") => `(tactic| fail)
local macro_rules | `(tactic| walk_at "pad 19") => `(tactic| fail)
local macro_rules | `(tactic| walk_at "pad 20") => `(tactic| fail)
local macro_rules | `(tactic| walk_at "pad 21") => `(tactic| fail)
local macro_rules | `(tactic| walk_at "pad 22") => `(tactic| fail)
local macro_rules | `(tactic| walk_at "pad 23") => `(tactic| fail)
local macro_rules | `(tactic| walk_at "pad 24") => `(tactic| fail)
local macro_rules | `(tactic| walk_at "pad 25") => `(tactic| fail)
local macro_rules | `(tactic| walk_at "pad 26") => `(tactic| fail)
local macro_rules | `(tactic| walk_at "pad 27") => `(tactic| fail)
local macro_rules | `(tactic| walk_at "pad 28") => `(tactic| fail)
local macro_rules | `(tactic| walk_at "pad 29") => `(tactic| fail)
open PySem PySem.W PyProof.Rows
set_option Elab.async false
set_option maxRecDepth 100000
set_option maxHeartbeats 8000000
set_option linter.unusedSimpArgs false
set_option linter.unusedVariables false
set_option pp.deepTerms false
set_option pp.deepTerms.threshold 20
set_option pp.proofs false
namespace Mine
/-- the law's end -/
def LawEnd (h₁ : Heap) (s₁ : Shared) (r : Result) (s' : Shared) : Prop :=
  r = .ok (.ret (.bool true)) ∧ (∀ b o, (ghostOf h₁ [(47, 45)]).get? b = some o → s'.heap.get? b = some o) ∧ GrownAt 45 s'.heap ∧ s'.os = s₁.os ∧ AllBare s'.gens

theorem law_post {M : Model} {A : Around} {cd : Code} {s s₁ : Shared} {cw : ClaimW} {cl : Str → Option Addr} {mean : ExcName → Option Value} {args : List WData} (hT : TabsAt [(47, 45)] s₁.heap) (hr : ∀ x, cw.raises args x = false) (hp : cw.post args (.bool true) args = true)
    (h : codeAny M A cd (LawEnd s₁.heap s₁) s) : codeAny M A cd (GoodWG cw cl mean args s₁) s :=
  codeAny_mono h fun r s' ⟨he, hk, hgr, hos, hg⟩ => by
    have keep : ∀ b o, b ≠ 45 → s₁.heap.get? b = some o → s'.heap.get? b = some o := fun b o hb e => hk b o (ghost_ne e (by simpa using hb))
    have grown : ∀ o, s₁.heap.get? 45 = some o → isCodeTable s₁.heap 45 ∧ o = tabObj #[] ∧ ∃ ps, s'.heap.get? 45 = some (tabObj ps) := fun o e => by
      have hq := hT (47, 45) (.head _)
      have e2 := hq.2
      rw [e] at e2
      exact ⟨(hq.1.tab hq.2).isCodeTable, Option.some.inj e2, hgr⟩
    refine ⟨.inl ⟨_, .bool true, [], he, hr, .bool true, hp, fun _ => ⟨.nil, fun a ha => nomatch ha⟩⟩, ⟨fun b o e => ?_, fun b o e => ?_⟩, hos, hg⟩
    · by_cases hb : b = 45
      · subst hb
        obtain ⟨ht, rfl, ps, hP⟩ := grown o e
        exact .inr (.inl ⟨ht, rfl, #[], ps, rfl, by rw [Array.empty_append]; exact hP⟩)
      · exact .inl (keep b o hb e)
    · by_cases hb : b = 45
      · subst hb
        obtain ⟨_, _, ps, hP⟩ := grown o e
        exact ⟨_, hP⟩
      · exact ⟨o, keep b o hb e⟩
local macro_rules | `(tactic| k_mem) => `(tactic| kcf_m)
-- a list of the ledger; a length; a list's copy; two lists joined
local macro_rules | `(tactic| is_list) => `(tactic| exact News.isList (by k_asm) (by k_mem))
local macro_rules | `(tactic| ktr_unf) => `(tactic| ((simp only [sizeLine_eq, List.size_toArray, List.length_append, List.length_cons, List.length_nil, List.length_map, len_expand, len_create]); omega))
local macro_rules | `(tactic| walk_at "call type:list") => `(tactic| (k_here; (with_reducible show wpAny _ _ (call (Value.type "list") [Value.ref _]) _ _ _); k_dflt (refine' list_copyK ?k1 ?k2 ?k3 ?_ ?z; (case k1 => k_asm); (case k2 => k_asm); (case k3 => is_list); (case z => ktr_unf); k_whole); intro D' c' h' F' N' l1; (try k_lt l1)))
local macro_rules | `(tactic| walk_at "binaryOp Add ref ref") => `(tactic| (k_here; (with_reducible show wpAny _ _ (binaryOp _ (Value.ref _) (Value.ref _)) _ _ _); k_dflt (refine' kmk_add_ints ?F ?N ?a ?b ?i ?j ?_ ?z; (case F => k_asm); (case N => k_asm); (case a => is_list); (case b => is_list); (case i => l_ints); (case j => l_ints); (case z => ktr_unf)); intro D' ws' h' F' N' l1 hI'; (try k_lt l1); (have hL' := IntsAre.length hI'); (try simp only [List.length_append, List.length_cons, List.length_nil, List.length_map, len_expand, len_create] at hL')))
-- the calls of what is shown above
local macro_rules | `(tactic| walk_at "call ref") => `(tactic| (k_here; k_dflt (refine' Con.use (poly_c ?hl ?hi) ?cuB ?cuF ?cuX ?cuN ?cuT ?cuk ?cud ?cuu ?_; (case cuF => k_asm); (case cuN => k_asm); (case hl => k_mem); (case hi => l_ints); (case cuB => k_asm); (case cuX => k_asm); (case cuT => k_asm); (case cuk => first | exact rfl | assumption); (case cud => ktr_room); (case cuu => ktr_units); intro t9 h9 tk9 F9 N9; (try dsimp only))))
local macro_rules | `(tactic| walk_at "call ref") => `(tactic| (k_here; k_dflt (refine' Con.use (expand_c ?hl) ?cuB ?cuF ?cuX ?cuN ?cuT ?cuk ?cud ?cuu ?_; (case cuF => k_asm); (case cuN => k_asm); (case hl => assumption); (case cuB => k_asm); (case cuX => k_asm); (case cuT => k_asm); (case cuk => first | exact rfl | assumption); (case cud => ktr_room); (case cuu => ktr_units); intro r9 ws9 n9 h9 tk9 I9 l9 F9 N9; (try simp only [LCg.Off1, and_true] at l9); (have hL' := IntsAre.length I9); (try simp only [len_expand, len_create] at hL'); (try dsimp only))))

local macro_rules | `(tactic| walk_at "call ref") => `(tactic| (k_here; k_dflt (refine' Con.use (create_c ?hl ?hm ?hi ?hs) ?cuB ?cuF ?cuX ?cuN ?cuT ?cuk ?cud ?cuu ?_; (case cuF => k_asm); (case cuN => k_asm); (case hl => assumption); (case hm => k_mem); (case hi => l_ints); (case hs => first | assumption | omega); (case cuB => k_asm); (case cuX => k_asm); (case cuT => k_asm); (case cuk => first | exact rfl | assumption); (case cud => ktr_room); (case cuu => ktr_units); intro r9 ws9 n9 h9 tk9 I9 l9 F9 N9; (try simp only [LCg.Off1, and_true] at l9); (have hL' := IntsAre.length I9); (try simp only [len_create] at hL'); (try dsimp only))))
local macro_rules | `(tactic| k_all) => `(tactic| first | exact all_ne_up (by assumption) | exact all_ne_up' (by assumption))

local macro_rules | `(tactic| walk_at "eval ListComp") => `(tactic| (k_here; refine Halt.mk ?_))
local macro_rules | `(tactic| walk_at "exec Assign cons ListComp") => `(tactic| (k_here; refine Halt.mk ?_))
local macro_rules | `(tactic| walk_at "CompSrc") => `(tactic| (k_here; refine Halt.mk ?_))
def rowOf (ns : List Int) : List Int := (ns.take 40).map (fun k => k.fmod 9973) ++ [2, 7]
theorem len_row (ns : List Int) : 2 ≤ (rowOf ns).length ∧ (rowOf ns).length ≤ 42 := by
  unfold rowOf
  rw [List.length_append, List.length_map, List.length_take]
  simp only [List.length_cons, List.length_nil]
  omega
theorem mem_row {ns : List Int} : ∀ x ∈ rowOf ns, 0 ≤ x ∧ x < 9973 := by
  intro x h
  rcases List.mem_append.mp h with h | h
  · obtain ⟨k, _, rfl⟩ := List.mem_map.mp h
    exact ⟨fmod_lo k (n := 9973) (by decide), fmod_hi k (n := 9973) (by decide)⟩
  · rcases List.mem_cons.mp h with rfl | h
    · decide
    · rw [List.mem_singleton.mp h]; decide
def frC (row : List Int) (k : Int) : Int := lowI (33 + (row.getD ((k + 1).fmod (row.length : Int)).toNat 0 + 11 * k).fmod 94)
def frS (row : List Int) (k : Int) : Str := ⟨#[(frC row k).toNat]⟩
theorem low_bound (x : Int) : 33 ≤ lowI (33 + x.fmod 94) ∧ lowI (33 + x.fmod 94) ≤ 126 ∧ ¬ (65 ≤ lowI (33 + x.fmod 94) ∧ lowI (33 + x.fmod 94) ≤ 90) := by
  have h0 := fmod_lo x (n := 94) (by decide)
  have h1 := fmod_hi x (n := 94) (by decide)
  unfold lowI
  split <;> omega
theorem size_bound (row : List Int) : 0 ≤ (row.getD (Int.toNat 0) 0).fmod 6 ∧ (row.getD (Int.toNat 0) 0).fmod 6 < 6 := ⟨fmod_lo _ (n := 6) (by decide), fmod_hi _ (n := 6) (by decide)⟩
local macro_rules | `(tactic| walk_at "call ref") => `(tactic| (k_here; k_dflt (refine' Con.use low_c ?cuB ?cuF ?cuX ?cuN ?cuT ?cuk ?cud ?cuu ?_; (case cuF => k_asm); (case cuN => k_asm); (case cuB => k_asm); (case cuX => k_asm); (case cuT => k_asm); (case cuk => first | exact rfl | assumption); (case cud => ktr_room); (case cuu => ktr_units); intro t9 h9 tk9 F9 N9; (try dsimp only))))
theorem chr_low {prog : Program} {w : World} {A : Around} {E : Value → Shared → Prop} {s : Shared} {x : Int} {t : Tok} {Q : Value → Shared → Prop} (h : Q (.str ⟨#[(lowI (33 + x.fmod 94)).toNat]⟩ s.toks) { s with toks := s.toks + 1 }) :
    wpAny (model prog w) A (call (.builtin "chr") [.int (lowI (33 + x.fmod 94)) t]) Q E s := by
  have := low_bound x
  exact chr_of_range (by omega) (by omega) h
local macro_rules | `(tactic| walk_at "call builtin:chr") => `(tactic| (k_here; refine chr_low ?_))
def frontOf (row : List Int) : Str := Txt.join (Str.ofString "") (List.map (frS row) (rangeKs 0 (1 + (row.getD (Int.toNat 0) 0).fmod 6).toNat))
theorem join_one (g : Int → Nat) (ks : List Int) : (Txt.join (Str.ofString "") (ks.map fun k => (⟨#[g k]⟩ : Str))).cps.toList = ks.map g := by
  unfold Txt.join
  rw [StrLaws.glued_eq_join, join_codes]
  induction ks with
  | nil => rfl
  | cons v r ih => rw [List.map_cons, List.flatMap_cons, ih]; rfl
theorem front_ok (row : List Int) : FrontOk (frontOf row) ∧ ((frontOf row).length : Int) = 1 + (row.getD (Int.toNat 0) 0).fmod 6 := by
  have hb := size_bound row
  have hc : (frontOf row).cps.toList = (rangeKs 0 (1 + (row.getD (Int.toNat 0) 0).fmod 6).toNat).map fun k => (frC row k).toNat := join_one _ _
  have hl : ((frontOf row).length : Int) = 1 + (row.getD (Int.toNat 0) 0).fmod 6 := by
    rw [len_codes, hc, List.length_map, rangeKs_length]; omega
  refine ⟨⟨by omega, by omega, fun c h => ?_⟩, hl⟩
  rw [hc] at h
  obtain ⟨k, _, rfl⟩ := List.mem_map.mp h
  have := low_bound (row.getD ((k + 1).fmod (row.length : Int)).toNat 0 + 11 * k)
  unfold frC
  omega
local macro_rules | `(tactic| walk_at "execs cons") => `(tactic| (k_here; (with_reducible show wpAny _ _ (execs [_, _, _, _, _, _, _, _, _, _, _, _, _, _, _, _, _, _, _, _] _) _ _ _); refine Halt.mk ?_))
theorem law_holds : PySem.Challenge.rw_fw0004_01.Holds := Mine.hd (by
  w_strict (
    k_fill
    intro w s₀ s₁ mg mb G Y fa o pm cd doc dV kV ho hd hcd hD hmg hg args vals as hpre hlay hrd hwl hlo
    have KX := kIn_of Y
    have X := (Ground.X G).1
    have V := (Ground.X G).2
    refine Ground.open G ?_
    intro T B D TE TW
    try (refine guard_noD D (by decide +kernel) ?_; clear D)
    have hT9 : TabsAt [(47, 45)] s₁.heap := List.forall_mem_cons.mpr ⟨tab_of (x := PySem.Str.ofString "bech32_decode") (c := 47) (P := 45) T KX rfl (by kernel_rfl), fun _ h => nomatch h⟩
    clear hmg
    wrow_args hpre hlay hrd hwl hlo
    first | refine callC_kw (enter_call ?_) | refine enter_call ?_
    w_top on
    refine Mine.law_post hT9 (fun _ => rfl) ?_ ?_
    · exact postW_of rfl (w_eq_bool (w_res rfl) w_lit) rfl
    w_call any ho hd hcd hD T F
    clear hd
    kn_ghosts F T
    k_drop
    rename (_ = Data.cell _) => dr
    revert dr
    rename (_ = Data.cell _) => dl
    intro dr
    rename Fr _ _ _ _ => F0
    rename IntsAre _ _ => hI0
    rename (¬ _ < _) => hcnd
    rename CellsAre _ _ _ => cX
    rename News _ _ _ _ => N0
    rename Top _ _ _ _ _ _ => T0
    rename Below _ _ _ _ => B0
    rename Heap.IsList (ghostOf _ _) _ _ => L0
    rename CodeHd _ _ _ => C0
    rename (45 < _) => l0
    clear cX hcd hD X V T B TE TW hT9 G Y ho
    have hgens := hg
    clear hg
    rename Heap.IsList _ _ _ => hL1
    rename ReadsAllW _ _ _ _ _ _ => hra
    clear hra
    have dr' : _ = Data.cell none := dr
    have dl' : _ = Data.cell none := dl
    clear dr dl
    have F0' : Fr _ _ _ (fun y => if y = PySem.Str.ofString "script" then some _ else none) := F0
    clear F0
    dsimp only at C0
    dsimp only
    rename List Int => ns
    have hlen0 := hI0.length
    (try k_fold)
    k_steps
    -- row: the comprehension
    refine Halt.go ?_
    rename Fr _ _ _ _ => F1
    k_dflt (refine LCg.ListComp_U (F₀ := F1) (by with_unfolding_all rfl) (by decide) (by rfl) (by decide) (by rfl) ?_)
    k_steps
    refine Halt.go ?_
    rename Fr _ _ _ _ => F2
    rename News _ _ _ _ => N2
    rename IntsAre _ (List.take 40 _) => I2
    have hlen2 := I2.length
    refine LCg.CompSrc.ledger (by rfl) F2 N2 (by kcf_m) (by rw [PySem.sizeLine_eq, List.size_toArray, hlen2, List.length_take]; omega) ?_
    intro g2
    refine' kcf_list (fun k => k.fmod 9973) I2 (fun k' t' I' oI' C' oC' D' m' ys' h' tk' E' hk' hC' hx' F' N' off' ne' hM' => ?_) ?_
    · clear F2 N2
      (try (simp only [LCg.Off3, and_true] at off'))
      k_steps
    · intro ys hy
      have hyl2 := hy.length
      k_steps
      refine Halt.go ?_
      -- row is a letter from here on
      have hr0 : 2 ≤ (rowOf ns).length ∧ (rowOf ns).length ≤ 42 := len_row ns
      have hrv : ∀ x ∈ rowOf ns, 0 ≤ x ∧ x < 9973 := mem_row
      have hrd : List.map (fun k => k.fmod 9973) (List.take 40 ns) ++ [2, 7] = rowOf ns := rfl
      generalize hrow : rowOf ns = row at hr0 hrv hrd
      simp only [hrd] at *
      clear hrd hy hyl2
      rename Fr _ _ _ _ => F3
      k_dflt (refine LCg.ListComp_U (F₀ := F3) (by with_unfolding_all rfl) (by decide) (by rfl) (by decide) (by rfl) ?_)
      k_steps
      refine Halt.go ?_
      rename Fr _ _ _ _ => F4
      rename News _ _ _ _ => N4
      rename IsRange _ _ _ _ _ _ _ _ => R4
      have hsz := size_bound row
      refine LCg.CompSrc.range (n := (1 + (row.getD (Int.toNat 0) 0).fmod 6).toNat) (by rfl) F4 N4 R4 (small_one (by omega) (by omega) (by omega) (by omega)) (by rw [rangeSize_nat]; omega) (by rw [PySem.sizeLine_eq]; omega) ?_
      intro g4
      refine' kct_range (frS row) (fun k' t' I' oI' C' oC' D' m' ys' h' tk' E' hlo' hhi' hC' hx' F' N' off' ne' hM' => ?_) ?_
      · clear F4 N4 R4
        (try (simp only [LCg.Off3, and_true] at off'))
        k_steps
        all_goals exact ⟨rfl, _, rfl⟩
      · intro ys2 hy2 hyn2
        have hn6 : (rangeKs 0 (1 + (row.getD (Int.toNat 0) 0).fmod 6).toNat).length ≤ 6 := by rw [rangeKs_length]; omega
        (try dsimp only [List.cons_append, List.nil_append])
        k_steps
        refine Halt.go ?_
        rename Fr _ _ _ _ => F5
        rename News _ _ _ _ => N5
        have hfo := front_ok row
        have hfd : Txt.join (PySem.Str.ofString "") (List.map (frS row) (rangeKs 0 (1 + (row.getD (Int.toNat 0) 0).fmod 6).toNat)) = frontOf row := rfl
        rw [hfd] at F5
        rw [← hfo.2] at F5
        refine' law_A hfo.1 hr0 hrv (by assumption) ?bM ?bR ?bD _ _ _ B0 (by assumption) T0 C0 l0 ?bF ?bN ?bG ?bQ
        case bF => with_unfolding_all exact F5
        case bN => exact news_sub N5 (by kcf_all)
        case bM => assumption
        case bR => assumption
        case bG => exact .of_eq hgens
        case bD => show @LT.lt Nat _ _ _; omega
        case bQ =>
          intro s' m' tb F' N' G' hos
          exact ⟨rfl, F'.keep, ⟨tb, (N' _ (.head _)).1⟩, hos, G'⟩))
end Mine
end
set_option Elab.async false
theorem PySem.Challenge.cw_fw0004_01_holds : PySem.Challenge.rw_fw0004_01.Holds :=
  Mine.law_holds
