import PyProof.Rows.All
import Wide.All
import OpenK.AllK
import Wide.FinOn
import PySem.Challenge.RW_oh0005_01
set_option Elab.async false
section
open PySem PySem.W PySem.W.X PySem.W.ZRun PyProof.Rows
set_option maxRecDepth 100000
set_option maxHeartbeats 0
namespace Mine
def rowT : OpenRow := { PySem.Challenge.rw_oh0005_01.row with name := Str.ofString "_truth", pre := .lt (.lit (.int 0)) (.len (.arg 0)), post := .lit (.bool true), keeps := [] }
theorem mk : rowT.Holds := by
  w_on; z_head; (case hw => w_witness2); z_go
end Mine
end
section
open PySem PySem.W PySem.W.X PyProof.Rows
set_option maxRecDepth 100000
set_option maxHeartbeats 1000000
namespace Mine
noncomputable abbrev pg : Program := PySem.Challenge.pw_oh0005_01
noncomputable abbrev MM (w : World) : Model := model pg w
noncomputable abbrev KF (w : World) : Frag := mk.heap_125 w.params
/-- the four code tables that grow -/
noncomputable def tabs : List Addr := [53, 97, 109, 121]
/-- the top's objects, but the tables, stand -/
noncomputable def Gd (w : World) (h : Heap) : Prop := ∀ a o, (KF w).lookup a = some o → a ∉ tabs → h.get? a = some o
/-- a nested lambda's line, its qualified name, its table once it is made -/
noncomputable def lnOf (P : Addr) : Int := if P = 97 then 106 else 112
noncomputable def qOf (P : Addr) : Str := if P = 97 then Str.ofString "_law_read.<locals>.<lambda>" else Str.ofString "_law_walk.<locals>.<lambda>"
noncomputable abbrev gT (P c : Addr) : Obj := tabObj #[.int (lnOf P) 0, .int 18 0, .ref c]
noncomputable def Gw (P : Addr) (o o' : Obj) (h' : Heap) : Prop := o' = o ∨ (o = tabObj #[] ∧ ∃ c, o' = gT P c ∧ c ∉ tabs ∧ h'.CodeRec (.ref c) (qOf P)) ∨ ((P = 53 ∨ P = 121) ∧ ∃ vs, o' = tabObj vs)
/-- all but the tables is kept; a table is kept or filled -/
structure Kp (h h' : Heap) : Prop where
  at_ : ∀ b o, h.get? b = some o → b ∉ tabs → h'.get? b = some o
  tb : ∀ P o, h.get? P = some o → P ∈ tabs → ∃ o', h'.get? P = some o' ∧ Gw P o o' h'
theorem codeRec_kp {h h' : Heap} {c : Addr} {q : Str} (x : h.CodeRec (.ref c) q) (k : Kp h h') (n : c ∉ tabs) : h'.CodeRec (.ref c) q := by
  obtain ⟨c', o, vs, t, e, g, r⟩ := x
  cases e
  exact ⟨c, o, vs, t, rfl, k.at_ _ _ g n, r⟩
theorem Kp.refl (h : Heap) : Kp h h := ⟨fun _ _ e _ => e, fun _ o e _ => ⟨o, e, .inl rfl⟩⟩
theorem Kp.trans {h h' h'' : Heap} (x : Kp h h') (y : Kp h' h'') : Kp h h'' := by
  refine ⟨fun b o e n => y.at_ b o (x.at_ b o e n) n, fun P o e m => ?_⟩
  obtain ⟨o1, e1, g1⟩ := x.tb P o e m
  obtain ⟨o2, e2, g2⟩ := y.tb P o1 e1 m
  refine ⟨o2, e2, ?_⟩
  rcases g1 with rfl | ⟨rfl, c, rfl, nc, rc⟩ | ⟨hP, vs, rfl⟩
  · exact g2
  · rcases g2 with rfl | ⟨z, _⟩ | z
    · exact .inr (.inl ⟨rfl, c, rfl, nc, codeRec_kp rc y nc⟩)
    · simp [gT, tabObj] at z
    · exact .inr (.inr z)
  · rcases g2 with rfl | ⟨_, c, rfl, _⟩ | z
    · exact .inr (.inr ⟨hP, vs, rfl⟩)
    · exact .inr (.inr ⟨hP, _, rfl⟩)
    · exact .inr (.inr z)
theorem Kp.of {h h' : Heap} (k : ∀ b o, h.get? b = some o → h'.get? b = some o) : Kp h h' := ⟨fun b o e _ => k b o e, fun P o e _ => ⟨o, k P o e, .inl rfl⟩⟩
theorem Gd.kp {w : World} {h h' : Heap} (G : Gd w h) (k : Kp h h') : Gd w h' := fun a o e n => k.at_ a o (G a o e n) n
theorem Kp.push (h : Heap) (o : Obj) : Kp h (h.push o) := Kp.of fun _ _ e => Heap.get?_push_of_some o e
noncomputable def esOf (o : Obj) : Array DictEntry := match o.data with | .dict es _ => es | _ => #[]
noncomputable def keyIsStr (e : DictEntry) : Bool := match e.key with | .str _ _ => true | _ => false
theorem strKeys_of {es : Array DictEntry} (h : es.all keyIsStr = true) : StrKeys es := fun e he => by
  have := Array.all_eq_true_iff_forall_mem.mp h e he
  unfold keyIsStr at this
  split at this
  · rename_i n t q; exact ⟨n, t, q⟩
  · cases this
noncomputable abbrev gN (w : World) : Str → Option Value := nsFind (esOf (mk.zo_4 w.params))
noncomputable abbrev bN (w : World) : Str → Option Value := nsFind (esOf (mk.zo_1 w.params))
theorem Gd.g {w : World} {h : Heap} (G : Gd w h) : h.Ns 3 (gN w) :=
  ⟨_, _, _, G 3 _ rfl (by decide), rfl, strKeys_of (by kernel_rfl!), fun _ => rfl⟩
theorem Gd.b {w : World} {h : Heap} (G : Gd w h) : h.Ns 0 (bN w) :=
  ⟨_, _, _, G 0 _ rfl (by decide), rfl, strKeys_of (by kernel_rfl!), fun _ => rfl⟩
theorem Gd.lim {w : World} {h : Heap} (G : Gd w h) : h.NoLimit :=
  ⟨nsFind (esOf (mk.zo_3 w.params)), ⟨_, _, _, G 2 _ rfl (by decide), rfl, strKeys_of (by kernel_rfl!), fun _ => rfl⟩, by kernel_rfl!⟩
theorem tabs_lt {a : Addr} (n : a ∈ tabs) : @LT.lt Nat _ a 125 := by
  unfold tabs at n
  simp only [List.mem_cons, List.not_mem_nil, or_false] at n
  rcases n with rfl | rfl | rfl | rfl <;> decide
theorem Gd.size {w : World} {h : Heap} (G : Gd w h) : 125 ≤ h.objs.size := Heap.lt_size (G 124 _ rfl (by decide))
theorem Gd.fresh {w : World} {h : Heap} (G : Gd w h) : h.objs.size ∉ tabs := fun n => absurd (Nat.lt_of_lt_of_le (tabs_lt n) G.size) (Nat.lt_irrefl _)
/-- a frame at hand: its names, what the entry's heap held, the top, objects made since -/
structure St (w : World) (h₀ : Heap) (L : Addr) (m : Str → Option Value) (N : List (Addr × Obj)) (h : Heap) : Prop where
  ns : h.Ns L m
  kp : Kp h₀ h
  g0 : Gd w h₀
  nw : ∀ p ∈ N, h.get? p.1 = some p.2 ∧ p.1 ≠ L ∧ p.1 ∉ tabs ∧ h₀.get? p.1 = none
  hi : h₀.objs.size ≤ L
/-- no code's record -/
noncomputable def noCode (o : Obj) : Prop := ∀ (vs : Array Value) q t, o.data = .fields vs → vs[1]? = some (.str q t) → False
theorem noCode_dict {o : Obj} {es : Array DictEntry} {ep : Nat} (h : o.data = .dict es ep) : noCode o := fun vs q t e _ => by rw [h] at e; cases e
theorem noCode_seq {o : Obj} {es : Array Value} {ep : Nat} (h : o.data = .seq es ep) : noCode o := fun vs q t e _ => by rw [h] at e; cases e
theorem noCode_cell {o : Obj} {v : Option Value} (h : o.data = .cell v) : noCode o := fun vs q t e _ => by rw [h] at e; cases e
/-- an object that the first heap does not know changes -/
theorem Kp.same {h₀ h h' : Heap} {x : Addr} {o : Obj} (k : Kp h₀ h) (hx0 : h₀.get? x = none) (ho : h.get? x = some o) (hc : noCode o) (he : ∀ b o, b ≠ x → h.get? b = some o → h'.get? b = some o) : Kp h₀ h' := by
  have ne : ∀ {b o}, h₀.get? b = some o → b ≠ x := fun e q => by rw [q, hx0] at e; cases e
  refine ⟨fun b o e n => he b o (ne e) (k.at_ b o e n), fun P o1 e m => ?_⟩
  obtain ⟨o', e', g⟩ := k.tb P o1 e m
  refine ⟨o', he P o' (ne e) e', ?_⟩
  rcases g with rfl | ⟨rfl, c, rfl, nc, rc⟩ | z
  rotate_left 2
  · exact .inr (.inr z)
  · exact .inl rfl
  · refine .inr (.inl ⟨rfl, c, rfl, nc, ?_⟩)
    obtain ⟨c', oc, vs, t, q1, q2, q3, q4⟩ := rc
    cases q1
    refine ⟨c, oc, vs, t, rfl, he c oc (fun q => ?_) q2, q3, q4⟩
    rw [q, ho] at q2
    cases q2
    exact hc _ _ _ q3 q4
theorem Kp.same2 {h₀ h h' : Heap} {x y : Addr} {o p : Obj} (k : Kp h₀ h) (hx0 : h₀.get? x = none) (hy0 : h₀.get? y = none) (ho : h.get? x = some o) (hp : h.get? y = some p) (hc : noCode o) (hd : noCode p) (he : ∀ b o, b ≠ x → b ≠ y → h.get? b = some o → h'.get? b = some o) : Kp h₀ h' := by
  have ne : ∀ {b o}, h₀.get? b = some o → b ≠ x := fun e q => by rw [q, hx0] at e; cases e
  have ne' : ∀ {b o}, h₀.get? b = some o → b ≠ y := fun e q => by rw [q, hy0] at e; cases e
  refine ⟨fun b o e n => he b o (ne e) (ne' e) (k.at_ b o e n), fun P o1 e m => ?_⟩
  obtain ⟨o', e', g⟩ := k.tb P o1 e m
  refine ⟨o', he P o' (ne e) (ne' e) e', ?_⟩
  rcases g with rfl | ⟨rfl, c, rfl, nc, rc⟩ | z
  rotate_left 2
  · exact .inr (.inr z)
  · exact .inl rfl
  · refine .inr (.inl ⟨rfl, c, rfl, nc, ?_⟩)
    obtain ⟨c', oc, vs, t, q1, q2, q3, q4⟩ := rc
    cases q1
    refine ⟨c, oc, vs, t, rfl, he c oc (fun q => ?_) (fun q => ?_) q2, q3, q4⟩
    · rw [q, ho] at q2
      cases q2
      exact hc _ _ _ q3 q4
    · rw [q, hp] at q2
      cases q2
      exact hd _ _ _ q3 q4
theorem Kp.ext {h h' : Heap} (e : Heap.ExtBut h.objs.size h h') : Kp h h' := Kp.of fun b o q => e b o (Nat.ne_of_lt (Heap.lt_size q)) q
section
variable {w : World} {h₀ h h' : Heap} {L : Addr} {m m' : Str → Option Value} {N : List (Addr × Obj)}
theorem St.gd (S : St w h₀ L m N h) : Gd w h := S.g0.kp S.kp
theorem St.lo (S : St w h₀ L m N h) : L ∉ tabs := fun n => absurd (Nat.lt_of_lt_of_le (tabs_lt n) (Nat.le_trans S.g0.size S.hi)) (Nat.lt_irrefl _)
theorem St.keep (S : St w h₀ L m N h) (k : Kp h h') : St w h₀ L m N h' :=
  ⟨let ⟨o, es, ep, ho, r⟩ := S.ns; ⟨o, es, ep, k.at_ L o ho S.lo, r⟩, S.kp.trans k, S.g0, fun p hp => ⟨k.at_ _ _ (S.nw p hp).1 (S.nw p hp).2.2.1, (S.nw p hp).2⟩, S.hi⟩
theorem St.ne {b : Addr} {o : Obj} (S : St w h₀ L m N h) (e : h₀.get? b = some o) : b ≠ L := Nat.ne_of_lt (Nat.lt_of_lt_of_le (Heap.lt_size e) S.hi)
theorem St.at {a : Addr} {o : Obj} (S : St w h₀ L m N h) (hm : (a, o) ∈ N) : h.get? a = some o := (S.nw _ hm).1
theorem St.old {a : Addr} {o : Obj} (S : St w h₀ L m N h) (e : h₀.get? a = some o) (n : a ∉ tabs) : h.get? a = some o := S.kp.at_ a o e n
theorem St.store (S : St w h₀ L m N h) (hn : h'.Ns L m') (hs : Heap.SameBut L h h') : St w h₀ L m' N h' :=
  ⟨hn, S.kp.same (Heap.get?_none_of_le S.hi) S.ns.choose_spec.choose_spec.choose_spec.1 (noCode_dict S.ns.choose_spec.choose_spec.choose_spec.2.1) fun b o n e => (hs.2 b n).trans e, S.g0, fun p hp => ⟨(hs.2 p.1 (S.nw p hp).2.1).trans (S.nw p hp).1, (S.nw p hp).2⟩, S.hi⟩
theorem St.fresh (S : St w h₀ L m N h) : h.objs.size ≠ L ∧ h.objs.size ∉ tabs ∧ h₀.get? h.objs.size = none := by
  refine ⟨Nat.ne_of_gt S.ns.lt, S.gd.fresh, ?_⟩
  cases q : h₀.get? h.objs.size with
  | none => rfl
  | some o => exact absurd (Nat.lt_of_lt_of_le (Heap.lt_size q) (Nat.le_trans S.hi (Nat.le_of_lt S.ns.lt))) (Nat.lt_irrefl _)
theorem St.push {o : Obj} (S : St w h₀ L m N h) (hf : o.isFreed = false := by rfl) : St w h₀ L m ((h.objs.size, o) :: N) (h.push o) := by
  have S' := S.keep (Kp.push h o)
  refine ⟨S'.ns, S'.kp, S'.g0, fun p hp => ?_, S'.hi⟩
  rcases List.mem_cons.mp hp with rfl | hp
  · exact ⟨Heap.get?_push_size _ hf, S.fresh⟩
  · exact S'.nw p hp
theorem St.drop {N' : List (Addr × Obj)} (S : St w h₀ L m N h) (hs : ∀ p ∈ N', p ∈ N) : St w h₀ L m N' h := ⟨S.ns, S.kp, S.g0, fun p hp => S.nw p (hs p hp), S.hi⟩
end
noncomputable abbrev sh (s : Shared) (h : Heap) (tk : Nat) : Shared := { s with heap := h, toks := tk }
/-- what a def's flow gives back -/
noncomputable def rv : Flow → Value
  | .ret v => v
  | _ => .none
section
variable {w : World} {A : Around} {s : Shared} {Q E : Value → Shared → Prop}
/-- a def without cells is entered -/
theorem enter {a : Addr} {o : Obj} {fd : FuncData} {body : List Stmt} {args : List Value} {kw : List (Str × Value)} {binds : List (Str × Value)} (G : Gd w s.heap) (hroom : A.depth < recursionLimit) (ho : s.heap.get? a = some o) (hd : o.data = .func fd)
    (hcd : s.heap.CodeRec fd.code fd.qualname) (hbody : fd.body = .stmts body) (hbind : BindsTo s fd ⟨args, kw⟩ binds) (hcell : ∀ x ∈ fd.scope.names, x.2 ≠ .cell) (hloc : ∀ x ∈ binds, fd.scope.names.lookup x.1 = some .local)
    (h : ∀ h₁ tk, St w s.heap s.heap.objs.size (fun x => binds.reverse.lookup x) [] h₁ →
      wpAny (MM w) (A.deeper (callEnv fd s.heap.objs.size a)) (execs body (callEnv fd s.heap.objs.size a)) (fun f s' => Q (rv f) s') (fun _ _ => False) (sh s h₁ tk))
    (hco : fd.scope.isCoroutine = false := by rfl) (hgen : fd.scope.isGenerator = false := by rfl) (hk : fd.scope.kind = .function := by rfl) :
    wpAny (MM w) A (call (.ref a) args kw) Q E s := by
  refine wpAny_call (codeAny_call_def hroom ho hd G.lim hcd hbody hbind hcell hloc (fun h₁ hn hk₁ => ?_) hco hgen hk)
  refine wpAny_mono (h h₁ _ ⟨hn, Kp.of hk₁, G, fun _ hp => (nomatch hp), Nat.le_refl _⟩) (fun f s' q => ?_) fun _ _ q => q.elim
  cases f <;> exact q
end
section
variable {w : World} {A : Around} {s : Shared} {Q E : Value → Shared → Prop} {h₀ : Heap} {L : Addr} {m : Str → Option Value} {N : List (Addr × Obj)} {env : Env} {x : Str} {pos : Pos} {v : Value}
theorem nameL (S : St w h₀ L m N s.heap) (hL : env.locals = L) (hk : env.scope.kind = .function) (hl : env.kindOf x = some .local) (hv : m x = some v) (hd : (x == ("__debug__" : Str)) = false) (h : Q v s) :
    wpAny (MM w) A (eval (.Name x pos) env) Q E s := wpAny_Name (wpAny_loadName_local hk hl (hL ▸ S.ns) hv h) hd
theorem nameG (G : Gd w s.heap) (hL : env.globals = 3) (hk : env.scope.kind = .function) (hl : env.kindOf x = some .globalImplicit) (hd : (x == ("__debug__" : Str)) = false) (hv : gN w x = some v) (h : Q v s) :
    wpAny (MM w) A (eval (.Name x pos) env) Q E s := Calls.Name_function_global hk hl (Calls.loadGlobal_global (hL ▸ G.g) hv h) hd
theorem nameB (v : Value) (G : Gd w s.heap) (hL : env.globals = 3) (hB : env.builtins = 0) (hk : env.scope.kind = .function) (hl : env.kindOf x = some .globalImplicit) (hd : (x == ("__debug__" : Str)) = false) (hn : gN w x = none) (hv : bN w x = some v) (h : Q v s) :
    wpAny (MM w) A (eval (.Name x pos) env) Q E s := Calls.Name_function_global hk hl (Calls.loadGlobal_builtin (hL ▸ G.g) hn (hB ▸ G.b) hv h) hd
theorem storeL {Q : Unit → Shared → Prop} (s : Shared) {h : Heap} {tk : Nat} (S : St w h₀ L m N h) (hL : env.locals = L) (hl : env.kindOf x = some .local) (hp : (env.scope.kind == .class || (env.scope.kind == .module && env.locals != env.globals)) = false)
    (k : ∀ h' tk', St w h₀ L (fun y => if y = x then some v else m y) N h' → Q () (sh s h' tk')) : wpAny (MM w) A (storeName env x v) Q E (sh s h tk) :=
  wpAny_storeName_local (s := sh s h tk) hl (hL ▸ S.ns) (fun h' hn hs => k h' _ (S.store (hL ▸ hn) (hL ▸ hs))) hp
end
/-! parts of the text -/
noncomputable def fdAt (o : Obj) : FuncData := match o.data with | .func fd => fd | _ => default
noncomputable def bodyOf (o : Obj) : List Stmt := match (fdAt o).body with | .stmts b => b | _ => []
noncomputable def stN : Nat → List Stmt → Stmt
  | 0, s :: _ => s
  | n + 1, _ :: r => stN n r
  | _, [] => default
noncomputable def forBo : Stmt → List Stmt
  | .For _ _ b _ _ => b
  | _ => []
noncomputable def forTg : Stmt → Expr
  | .For t _ _ _ _ => t
  | _ => default
noncomputable def whBo : Stmt → List Stmt
  | .While _ b _ _ => b
  | _ => []
noncomputable def asV : Stmt → Expr
  | .Assign _ v _ => v
  | .Return (some v) _ => v
  | _ => default
noncomputable def callA : Expr → Expr
  | .Call _ (l :: _) _ _ => l
  | _ => default
end Mine
end
section
open PySem PySem.W PySem.W.X PyProof.Rows
set_option maxRecDepth 100000
set_option maxHeartbeats 1000000
namespace Mine
/-! my frame St said in the library's words Fr and News, over the heap of nothing: all objects but the frame's dict are listed -/
noncomputable def bare : Heap := {}
theorem bare_none (b : Addr) : bare.get? b = none := Heap.get?_none_of_le (Nat.zero_le b)
/-- what the heap holds, less the frame's dict -/
noncomputable def others (L : Addr) (h : Heap) : List (Addr × Obj) := (List.range h.objs.size).filterMap fun b => if b = L then none else (h.get? b).map fun o => (b, o)
theorem mem_others {L b : Addr} {h : Heap} {o : Obj} : (b, o) ∈ others L h ↔ b ≠ L ∧ h.get? b = some o := by
  simp only [others, List.mem_filterMap, List.mem_range]
  constructor
  · rintro ⟨x, _, e⟩
    by_cases z : x = L
    · simp [z] at e
    · rw [if_neg z] at e
      obtain ⟨o', g, q⟩ := Option.map_eq_some_iff.mp e
      cases q
      exact ⟨z, g⟩
  · rintro ⟨z, g⟩
    exact ⟨b, Heap.lt_size g, by rw [if_neg z, g]; rfl⟩
theorem others_news {L : Addr} {h : Heap} : News bare L h (others L h) := fun _ hp => ⟨(mem_others.mp hp).2, (mem_others.mp hp).1, bare_none _⟩
section
variable {w : World} {h₀ h h' : Heap} {L : Addr} {m m' : Str → Option Value} {N : List (Addr × Obj)}
theorem St.fr (S : St w h₀ L m N h) : Fr bare L h m := ⟨S.ns, fun b o e => (by rw [bare_none] at e; cases e), Nat.zero_le _⟩
/-- back again -/
theorem St.re (S : St w h₀ L m N h) (F : Fr bare L h' m') (K : News bare L h' (others L h)) : St w h₀ L m' N h' := by
  have old : ∀ b o, b ≠ L → h.get? b = some o → h'.get? b = some o := fun b o z e => (K (b, o) (mem_others.mpr ⟨z, e⟩)).1
  obtain ⟨_, _, _, gL, dL, _⟩ := S.ns
  exact ⟨F.ns, S.kp.same (Heap.get?_none_of_le S.hi) gL (noCode_dict dL) old, S.g0, fun p hp => ⟨old _ _ (S.nw p hp).2.1 (S.nw p hp).1, (S.nw p hp).2⟩, S.hi⟩
/-- .. with an object made -/
theorem St.reNew {o : Obj} (S : St w h₀ L m N h) (F : Fr bare L h' m') (K : News bare L h' ((h.objs.size, o) :: others L h)) : St w h₀ L m' ((h.objs.size, o) :: N) h' := by
  have R := S.re F fun p hp => K p (List.mem_cons_of_mem _ hp)
  refine ⟨R.ns, R.kp, R.g0, fun p hp => ?_, R.hi⟩
  rcases List.mem_cons.mp hp with rfl | hp
  · exact ⟨(K _ (List.Mem.head _)).1, S.fresh⟩
  · exact R.nw p hp
end
/-- a loop over a range is the loop over its list -/
theorem forRange {m : Type → Type} [Monad m] [LawfulMonad m] {β : Type} {a b : Nat} {l : List Nat} (c : β) (f : Nat → β → m (ForInStep β)) (hl : List.range' a (b - a) 1 = l) : forIn [a:b] c f = forIn l c f := by
  simp [Std.Legacy.Range.forIn_eq_forIn_range', Std.Legacy.Range.size, ← hl]
section
variable {w : World} {A : Around} {E Q : Value → Shared → Prop} {s : Shared} {h₀ h : Heap} {L l r : Addr} {m : Str → Option Value} {N : List (Addr × Obj)} {tk : Nat} {vs ws : List Value} {ns : List Int}
theorem maxL (S : St w h₀ L m N h) (hh : A.handled = none) (hl : h.IsList l vs.toArray) (hi : IntsAre vs ns) (hne : 0 < ns.length)
    (k : ∀ h' M (t : Tok) tk', St w h₀ L m N h' → M ∈ ns → (∀ a, a ∈ ns → a ≤ M) → Q (.int M t) (sh s h' tk')) : wpAny (MM w) A (call (.builtin "max") [.ref l]) Q E (sh s h tk) :=
  max_list_N (s := sh s h tk) hh S.fr others_news hl hi hne fun h' M t tk' F K => k h' M t tk' (S.re F K)
theorem minL (S : St w h₀ L m N h) (hh : A.handled = none) (hl : h.IsList l vs.toArray) (hi : IntsAre vs ns) (hne : 0 < ns.length)
    (k : ∀ h' M (t : Tok) tk', St w h₀ L m N h' → M ∈ ns → (∀ a, a ∈ ns → M ≤ a) → Q (.int M t) (sh s h' tk')) : wpAny (MM w) A (call (.builtin "min") [.ref l]) Q E (sh s h tk) :=
  min_list_N (s := sh s h tk) hh S.fr others_news hl hi hne fun h' M t tk' F K => k h' M t tk' (S.re F K)
theorem addL (S : St w h₀ L m N h) (hl : h.IsList l vs.toArray) (hr : h.IsList r ws.toArray) (hz : vs.length + ws.length ≤ 1000)
    (k : ∀ h', St w h₀ L m ((h.objs.size, { cls := .type "list", data := .seq (vs ++ ws).toArray }) :: N) h' → Q (.ref h.objs.size) (sh s h' tk)) : wpAny (MM w) A (binaryOp .Add (.ref l) (.ref r)) Q E (sh s h tk) :=
  add_lists (s := sh s h tk) S.fr others_news hl hr (fun h' F K => k h' (S.reNew F K)) (by rw [sizeLine_eq]; omega)
theorem bslice {value slice : PySem.Expr} {b : Array UInt8} {t : Tok} {lv uv : Value} {lo hi : Option Int} (s : Shared) (S : St w h₀ L m N h) (hl : IsPart lv lo) (hu : IsPart uv hi)
    (hne : KBy.whole b lo hi = false) (hz : (KBy.picked b lo hi).size ≤ 16777216) (k : ∀ h' tk' t', St w h₀ L m N h' → Q (.bytes (KBy.picked b lo hi) t') (sh s h' tk'))
    (hs : subscripted slice false (.bytes b t) (.ref h.objs.size) = operate [.ref h.objs.size, .bytes b t] (getItem (.bytes b t) (.ref h.objs.size)))
    (ht : ∀ r, letTemporaryGo value (.bytes b t) r = pure ()) :
    wpAny (MM w) A (subscriptTail value slice (.bytes b t) (.ref h.objs.size)) Q E (sh s (h.push { cls := .type "slice", data := .fields #[lv, uv, .none] }) tk) :=
  KBy.slice_N (s := sh s h tk) S.fr others_news hl hu hne hz (fun h' t' k' F K => k h' k' t' (S.re F K)) hs ht
end
end Mine
end
section
open PySem PySem.W PySem.W.X PyProof.Rows
set_option maxRecDepth 100000
set_option maxHeartbeats 1000000
namespace Mine
/-! the int and constant rules, the state kept tidy -/
section
variable {w : World} {A : Around} {E : Value → Shared → Prop} {Q : Value → Shared → Prop} {s : Shared} {h : Heap} {tk : Nat} {env : Env} {a b : Int} {t u : Tok}
theorem cI {i : Int} {kk : Nat} {pos : Pos} (k : Q (.int i tk) (sh s h (tk + 1))) : wpAny (MM w) A (eval (.Constant (.int i) kk pos) env) Q E (sh s h tk) := wpAny_Constant_int k
theorem cB {x : List UInt8} {kk : Nat} {pos : Pos} (k : Q (.bytes x.toArray tk) (sh s h (tk + 1))) : wpAny (MM w) A (eval (.Constant (.bytes x) kk pos) env) Q E (sh s h tk) := Constant_bytes k
theorem addI (k : Q (.int (a + b) tk) (sh s h (tk + 1))) : wpAny (MM w) A (binaryOp .Add (.int a t) (.int b u)) Q E (sh s h tk) := PyProof.Rows.add_int k
theorem subI (k : Q (.int (a - b) tk) (sh s h (tk + 1))) : wpAny (MM w) A (binaryOp .Sub (.int a t) (.int b u)) Q E (sh s h tk) := PyProof.Rows.sub_int k
theorem fdI (hb : b ≠ 0) (hs : b.natAbs < 1073741824) (k : Q (.int (a.fdiv b) tk) (sh s h (tk + 1))) : wpAny (MM w) A (binaryOp .FloorDiv (.int a t) (.int b u)) Q E (sh s h tk) := floordiv_int hb k (Or.inl (PyProof.noPylong_small hs))
theorem fmI (hb : b ≠ 0) (k : Q (.int (a.fmod b) tk) (sh s h (tk + 1))) : wpAny (MM w) A (binaryOp .Mod (.int a t) (.int b u)) Q E (sh s h tk) := mod_int' hb k
theorem ltI (k : Q (.bool (decide (a < b))) (sh s h tk)) : wpAny (MM w) A (compareOp .Lt (.int a t) (.int b u)) Q E (sh s h tk) := lt_int k
theorem lenB {x : Array UInt8} (hx : x.size ≤ 1099511627776) (k : Q (.int x.size (tk + 1)) (sh s h (tk + 1 + 1))) : wpAny (MM w) A (call (.builtin "len") [.bytes x t]) Q E (sh s h tk) := len_bytes hx k
theorem catB {x y : Array UInt8} (hz : x.size + y.size ≤ 16777216) (k : ∀ t' tk', Q (.bytes (x ++ y) t') (sh s h tk')) : wpAny (MM w) A (binaryOp .Add (.bytes x t) (.bytes y u)) Q E (sh s h tk) := KBy.add_bytes hz fun t' k' => k t' k'
theorem itB {x : List UInt8} {i : Int} {value slice : PySem.Expr} (hfit : x.length ≤ 1099511627776) (h0 : 0 ≤ i) (h1 : i < (x.length : Int))
    (hs : subscripted slice false (.bytes x.toArray t) (.int i u) = operate [.bytes x.toArray t, .int i u] (getItem (.bytes x.toArray t) (.int i u)))
    (ht : ∀ r, letTemporaryGo value (.bytes x.toArray t) r = pure ()) (k : Q (.int (x.getD i.toNat 0).toNat tk) (sh s h (tk + 1))) :
    wpAny (MM w) A (subscriptTail value slice (.bytes x.toArray t) (.int i u)) Q E (sh s h tk) := KBy.item_N hfit h0 h1 k hs ht
theorem newL {vs : List Value} (hz : vs.length ≤ 16777216) (k : Q (.ref h.objs.size) (sh s (h.push { cls := .type "list", data := .seq vs.toArray }) tk)) : wpAny (MM w) A (newList vs) Q E (sh s h tk) := wpAny_newList k (by rw [sizeLine_eq]; exact hz)
theorem neI (k : Q (.bool (a != b)) (sh s h tk)) : wpAny (MM w) A (compareOp .NotEq (.int a t) (.int b u)) Q E (sh s h tk) := PyProof.Rows.ne_int k
theorem negI (k : Q (.int (-a) tk) (sh s h (tk + 1))) : wpAny (MM w) A (unaryOp .USub (.int a t)) Q E (sh s h tk) := PyProof.Rows.neg_int k
end
section
variable {w : World} {h₀ h h' : Heap} {L a : Addr} {m : Str → Option Value} {N : List (Addr × Obj)} {o o' : Obj}
theorem St.change (S : St w h₀ L m ((a, o) :: N) h) (hs : Heap.SameBut a h h') (ho : h'.get? a = some o') (hn : ∀ p ∈ N, p.1 ≠ a) (hc : noCode o) : St w h₀ L m ((a, o') :: N) h' := by
  have z := S.nw (a, o) (List.Mem.head _)
  refine ⟨S.ns.sameBut hs (Ne.symm z.2.1), S.kp.same z.2.2.2 z.1 hc fun b o n e => (hs.2 b n).trans e, S.g0, fun p hp => ?_, S.hi⟩
  · rcases List.mem_cons.mp hp with rfl | hp
    · exact ⟨ho, z.2⟩
    · have y := S.nw p (List.Mem.tail _ hp)
      exact ⟨(hs.2 p.1 (hn p hp)).trans y.1, y.2⟩
end
/-- the signs' places: a dict -/
noncomputable def Pl (w : World) (h : Heap) (d : Addr) (al : List UInt8) : Prop := al.length = 64 ∧ al.Nodup ∧ d ∉ tabs ∧ (d == sysModules) = false ∧ ∃ kvs, h.DictOf (intKind pg w) d kvs ∧ ∀ (i : Nat) (c : UInt8), al[i]? = some c → ∃ t, valueAt kvs (c.toNat : Int) = some (.int i t)
theorem Pl.kp {w : World} {h h' : Heap} {d : Addr} {al : List UInt8} (P : Pl w h d al) (k : Kp h h') : Pl w h' d al :=
  let ⟨a, b, c, e, kvs, ⟨o, es, ep, ho, r⟩, f⟩ := P
  ⟨a, b, c, e, kvs, ⟨o, es, ep, k.at_ d o ho c, r⟩, f⟩
section
variable {w : World} {A : Around} {E : Value → Shared → Prop} {s : Shared} {h : Heap} {tk : Nat} {d : Addr} {al : List UInt8}
theorem plMeth {pl : Sem Bool} {Q : Value × List Value → Shared → Prop} (P : Pl w h d al) (k : Q (.builtin "dict.get", [.ref d]) (sh s h tk)) : wpAny (MM w) A (getMethod (.ref d) "get" pl) Q E (sh s h tk) :=
  let ⟨_, _, _, _, _, D, _⟩ := P
  getMethod_builtin (Heap.DictOf.typeIs D) PySem.F.plainAttrs_dict PySem.F.slot_dict_get PySem.F.type_dict_get D.mapOf.noDict k
theorem plGet {i : Nat} {c : UInt8} {t : Tok} {dflt : Value} {Q : Value → Shared → Prop} (P : Pl w h d al) (hc : al[i]? = some c) (k : ∀ t', Q (.int i t') (sh s h (tk + 1))) : wpAny (MM w) A (call (.builtin "dict.get") [.ref d, .int c.toNat t, dflt]) Q E (sh s h tk) := by
  obtain ⟨_, _, _, lo, kvs, D, f⟩ := P
  obtain ⟨t', e⟩ := f i c hc
  exact call_meetsIn PySem.F.slot_dict_get (Heap.DictOf.typeIs (s := sh s h tk) D) PySem.F.entry_dict_get (PySem.F.args_dict_get_3 _ _ _) (meets_dict_get_default (intKind pg w) d (k := (c.toNat : Int)) (by simp [intKind, Value.isInt]) lo dflt) ⟨_, Heap.DictOf.mapOf D, by rw [e]; exact k t'⟩
end
noncomputable abbrev rgO (a b c : Int) (t u v : Tok) : Obj := { cls := .type "range", data := .fields #[.int a t, .int b u, .int c v] }
noncomputable abbrev riO (x left step : Int) : Obj := { cls := .type "range_iterator", data := .fields #[rawInt x, rawInt left, rawInt step] }
theorem noCode_ri {x left step : Int} : noCode (riO x left step) := fun vs q t e1 e2 => by cases e1; simp [rawInt] at e2
section
variable {w : World} {A : Around} {E : Value → Shared → Prop} {Q : Value → Shared → Prop} {s : Shared} {h₀ h : Heap} {L : Addr} {m : Str → Option Value} {N : List (Addr × Obj)} {tk : Nat}
theorem rangeS {n : Int} {t : Tok} (s : Shared) (S : St w h₀ L m N h) (k : ∀ r h' tk' t1 t2 t3, St w h₀ L m ((r, rgO 0 n 1 t1 t2 t3) :: N) h' → (∀ p ∈ N, p.1 ≠ r) → Q (.ref r) (sh s h' tk')) : wpAny (MM w) A (call (.type "range") [.int n t]) Q E (sh s h tk) :=
  call_range_1 (k _ _ _ _ _ _ S.push fun p hp => Nat.ne_of_lt (Heap.lt_size (S.nw p hp).1))
theorem iterR {r : Addr} {a b c : Int} {t u v : Tok} (s : Shared) (S : St w h₀ L m N h) (hr : (r, rgO a b c t u v) ∈ N) (hsmall : Builtin.Range.small a b c = true)
    (k : ∀ it h', St w h₀ L m ((it, riO a (Builtin.Range.rangeSize a b c) c) :: N) h' → (∀ p ∈ N, p.1 ≠ it) → Q (.ref it) (sh s h' tk)) : wpAny (MM w) A (pyIter (.ref r)) Q E (sh s h tk) :=
  wpAny_pyIter_range (S.at hr) hsmall (k _ _ S.push fun p hp => Nat.ne_of_lt (Heap.lt_size (S.nw p hp).1))
theorem nextR {it : Addr} {x left step : Int} {Q : Option Value → Shared → Prop} (s : Shared) (S : St w h₀ L m ((it, riO x left step) :: N) h) (hn : ∀ p ∈ N, p.1 ≠ it) (hl : 0 < left)
    (k : ∀ h' tk' t, St w h₀ L m ((it, riO (x + step) (left - 1) step) :: N) h' → Q (some (.int x t)) (sh s h' tk')) : wpAny (MM w) A (pyNext (.ref it)) Q E (sh s h tk) :=
  wpAny_pyNext_range_item (s := sh s h tk) (S.at (List.Mem.head _)) hl fun h' hit hs => k h' _ _ (S.change hs hit hn noCode_ri)
theorem endR {it : Addr} {x left step : Int} {Q : Option Value → Shared → Prop} (s : Shared) (S : St w h₀ L m ((it, riO x left step) :: N) h) (hn : ∀ p ∈ N, p.1 ≠ it) (hh : A.handled = none) (hl : left ≤ 0)
    (k : ∀ h', St w h₀ L m N h' → Q none (sh s h' tk)) : wpAny (MM w) A (pyNext (.ref it)) Q E (sh s h tk) :=
  wpAny_pyNext_range_end (s := sh s h tk) hh (S.at (List.Mem.head _)) hl fun h' he => k h' (by
    have z := S.nw _ (List.Mem.head _)
    have he' : ∀ b o, b ≠ it → h.get? b = some o → h'.get? b = some o := fun b o n e => he b o n e
    refine ⟨?_, S.kp.same z.2.2.2 z.1 noCode_ri he', S.g0, fun p hp => ?_, S.hi⟩
    · obtain ⟨o, es, ep, ho, r⟩ := S.ns
      exact ⟨o, es, ep, he L o (Ne.symm z.2.1) ho, r⟩
    · have y := S.nw p (List.Mem.tail _ hp)
      exact ⟨he _ _ (hn p hp) y.1, y.2⟩)
end
end Mine
end
section
open PySem PySem.W PySem.W.X PyProof.Rows
set_option maxRecDepth 100000
set_option maxHeartbeats 1000000
namespace Mine
section
variable {w : World} {A : Around} {s : Shared} {Q E : Value → Shared → Prop}
/-- a lambda is entered -/
theorem enterE {a : Addr} {o : Obj} {fd : FuncData} {body : Expr} {args : List Value} {binds : List (Str × Value)} (G : Gd w s.heap) (hroom : A.depth < recursionLimit) (ho : s.heap.get? a = some o) (hd : o.data = .func fd)
    (hcd : s.heap.CodeRec fd.code fd.qualname) (hbody : fd.body = .expr body) (hbind : BindsTo s fd ⟨args, []⟩ binds) (hcell : ∀ x ∈ fd.scope.names, x.2 ≠ .cell) (hloc : ∀ x ∈ binds, fd.scope.names.lookup x.1 = some .local)
    (hco : fd.scope.isCoroutine = false) (hgen : fd.scope.isGenerator = false) (hk : fd.scope.kind = .function)
    (h : ∀ h₁ tk, St w s.heap s.heap.objs.size (fun x => binds.reverse.lookup x) [] h₁ →
      wpAny (MM w) (A.deeper (callEnv fd s.heap.objs.size a)) (eval body (callEnv fd s.heap.objs.size a)) Q (fun _ _ => False) (sh s h₁ tk)) :
    wpAny (MM w) A (call (.ref a) args) Q E s := by
  refine wpAny_call (kla_callFunE hroom ho hd hco hgen hbody hcd (hbind _ _ _ _ ?_))
  refine wpAny_newFunctionEnv hcell hloc (fun h₀ hns₀ hsb₀ => ⟨G.lim.fresh _ hsb₀, kla_codeExpr ?_⟩) hk
  have hk₁ : ∀ b o, s.heap.get? b = some o → h₀.get? b = some o := fun b o e => hsb₀.extBut b o (Nat.ne_of_lt (Heap.lt_size e)) (Heap.get?_push_of_some _ e)
  exact wpAny_mono (h h₀ _ ⟨hns₀, Kp.of hk₁, G, fun _ hp => (nomatch hp), Nat.le_refl _⟩) (fun _ _ q => q) fun _ _ q => q.elim
variable {h₀ : Heap} {L c : Addr} {m : Str → Option Value} {N : List (Addr × Obj)} {env : Env} {x : Str} {pos : Pos} {v : Value}
theorem nameF (hk : env.scope.kind = .function) (hl : env.kindOf x = some .free) (hc : env.cells.lookup x = some c) (hv : s.heap.IsCell c (some v)) (hd : (x == ("__debug__" : Str)) = false) (hn : (x == ("__classdict__" : Str)) = false) (h : Q v s) :
    wpAny (MM w) A (eval (.Name x pos) env) Q E s := wpAny_Name (wpAny_loadName_free hk hl hc hv h hn) hd
end
theorem noCells {l : List (Str × NameKind)} (h : (l.all fun x => x.2 != .cell) = true) : ∀ x ∈ l, x.2 ≠ .cell := fun x hx q => by
  have := List.all_eq_true.mp h x hx
  rw [q] at this
  cases this
/-- a cell that is no table -/
noncomputable def Cl (h : Heap) (c : Addr) (v : Value) : Prop := c ∉ tabs ∧ h.IsCell c (some v)
theorem Cl.kp {h h' : Heap} {c : Addr} {v : Value} (x : Cl h c v) (k : Kp h h') : Cl h' c v := ⟨x.1, let ⟨o, ho, hd⟩ := x.2; ⟨o, k.at_ c o ho x.1, hd⟩⟩
noncomputable def lamP : Expr → Arguments
  | .Lambda p _ _ _ => p
  | _ => default
noncomputable def lamB : Expr → Expr
  | .Lambda _ b _ _ => b
  | _ => default
noncomputable def lamS : Expr → Scope
  | .Lambda _ _ s _ => s
  | _ => default
/-- law's first lambda -/
noncomputable def lam1 (w : World) : Expr := callA (asV (stN 5 (bodyOf (mk.zo_125 w.params))))
/-- a made lambda stands at q -/
noncomputable def Lam (h : Heap) (q : Addr) (e : Expr) (cl : List (Str × Addr)) : Prop := q ∉ tabs ∧ ∃ nm qual pm c' ctv, c' ∉ tabs ∧ h.get? q = some (kla_obj nm qual (lamP e) (lamB e) (lamS e) cl pm c' ctv) ∧ h.CodeRec (.ref c') qual
theorem Lam.kp {h h' : Heap} {q : Addr} {e : Expr} {cl : List (Str × Addr)} (x : Lam h q e cl) (k : Kp h h') : Lam h' q e cl :=
  let ⟨n, nm, qual, pm, c', ctv, n', ho, hc⟩ := x
  ⟨n, nm, qual, pm, c', ctv, n', k.at_ _ _ ho n, codeRec_kp hc k n'⟩
end Mine
end
section
open PySem PySem.W PySem.W.X PyProof.Rows
set_option maxRecDepth 100000
set_option maxHeartbeats 1000000
namespace Mine
theorem not_tab {a : Addr} (h : @LE.le Nat _ 125 a) : a ∉ tabs := fun n => absurd (Nat.lt_of_lt_of_le (tabs_lt n) h) (Nat.lt_irrefl _)
theorem initMissing (w : World) : gN w (Str.ofString "_initial_missing") = some (.ref 59) := by kernel_rfl!
/-- a list that is no table -/
noncomputable def IsL (h : Heap) (l : Addr) (items : Array Value) : Prop := l ∉ tabs ∧ h.IsList l items
theorem IsL.kp {h h' : Heap} {l : Addr} {items : Array Value} (x : IsL h l items) (k : Kp h h') : IsL h' l items := ⟨x.1, let ⟨o, ho, r⟩ := x.2; ⟨o, k.at_ _ _ ho x.1, r⟩⟩
/-- a list's iterator as an object -/
noncomputable def LiO (o : Obj) (l : Addr) (i : Nat) : Prop := o.cls = .type "list_iterator" ∧ o.data = .fields #[.ref l, .int i 0]
theorem LiO.noCode {o : Obj} {l : Addr} {i : Nat} (x : LiO o l i) : noCode o := fun vs q t e1 e2 => by rw [x.2] at e1; cases e1; simp at e2
theorem St.add {w : World} {h₀ h : Heap} {L a n : Addr} {m : Str → Option Value} {N : List (Addr × Obj)} {o : Obj} (S : St w h₀ L m N h) (lt : @LT.lt Nat _ L n) (ge : @LE.le Nat _ n a) (e : h.get? a = some o) : St w h₀ L m ((a, o) :: N) h :=
  ⟨S.ns, S.kp, S.g0, fun p hp => by
    rcases List.mem_cons.mp hp with rfl | hp
    · have z : @LT.lt Nat _ L a := Nat.lt_of_lt_of_le lt ge
      exact ⟨e, Nat.ne_of_gt z, not_tab (Nat.le_trans S.g0.size (Nat.le_trans S.hi (Nat.le_of_lt z))), Heap.get?_none_of_le (Nat.le_trans S.hi (Nat.le_of_lt z))⟩
    · exact S.nw p hp, S.hi⟩
section
variable {w : World} {A : Around} {E : Value → Shared → Prop} {s : Shared} {h₀ h : Heap} {L it l : Addr} {m : Str → Option Value} {N : List (Addr × Obj)} {tk i : Nat} {o : Obj} {items : Array Value}
theorem nextL {x : Value} {Q : Option Value → Shared → Prop} (s : Shared) (S : St w h₀ L m ((it, o) :: N) h) (hn : ∀ p ∈ N, p.1 ≠ it) (ho : LiO o l i) (hl : h.IsList l items) (hx : items[i]? = some x)
    (k : ∀ h' o', St w h₀ L m ((it, o') :: N) h' → LiO o' l (i + 1) → Q (some x) (sh s h' tk)) : wpAny (MM w) A (pyNext (.ref it)) Q E (sh s h tk) :=
  wpAny_pyNext_list_item (s := sh s h tk) ⟨o, S.at (List.Mem.head _), ho⟩ hl hx fun h' hit hs => by
    obtain ⟨o', h1, h2⟩ := hit
    exact k h' o' (S.change hs h1 hn ho.noCode) h2
theorem endL {Q : Option Value → Shared → Prop} (s : Shared) (S : St w h₀ L m ((it, o) :: N) h) (hn : ∀ p ∈ N, p.1 ≠ it) (ho : LiO o l i) (hl : h.IsList l items) (hx : items[i]? = none) (hh : A.handled = none)
    (k : ∀ h', St w h₀ L m N h' → Q none (sh s h' tk)) : wpAny (MM w) A (pyNext (.ref it)) Q E (sh s h tk) :=
  wpAny_pyNext_list_end (s := sh s h tk) hh ⟨o, S.at (List.Mem.head _), ho⟩ hl hx fun h' he => k h' (by
    have z := S.nw _ (List.Mem.head _)
    have he' : ∀ b o, b ≠ it → h.get? b = some o → h'.get? b = some o := fun b o n e => he b o n e
    refine ⟨?_, S.kp.same z.2.2.2 z.1 ho.noCode he', S.g0, fun p hp => ?_, S.hi⟩
    · obtain ⟨o, es, ep, ho, r⟩ := S.ns
      exact ⟨o, es, ep, he L o (Ne.symm z.2.1) ho, r⟩
    · have y := S.nw p (List.Mem.tail _ hp)
      exact ⟨he _ _ (hn p hp) y.1, y.2⟩)
theorem iterL {Q : Value → Shared → Prop} (s : Shared) (S : St w h₀ L m N h) (hl : h.IsList l items) (k : ∀ it h', St w h₀ L m ((it, { cls := .type "list_iterator", data := .fields #[.ref l, .int 0 0] }) :: N) h' → (∀ p ∈ N, p.1 ≠ it) → Q (.ref it) (sh s h' tk)) :
    wpAny (MM w) A (pyIter (.ref l)) Q E (sh s h tk) :=
  wpAny_pyIter_list hl (k _ _ S.push fun p hp => Nat.ne_of_lt (Heap.lt_size (S.nw p hp).1))
theorem callIter {Q : Value → Shared → Prop} (s : Shared) (S : St w h₀ L m N h) (hl : h.IsList l items) (k : ∀ it h', St w h₀ L m ((it, { cls := .type "list_iterator", data := .fields #[.ref l, .int 0 0] }) :: N) h' → (∀ p ∈ N, p.1 ≠ it) → Q (.ref it) (sh s h' tk)) :
    wpAny (MM w) A (call (.builtin "iter") [.ref l]) Q E (sh s h tk) := by
  have one : someArgs "iter" 1 2 ⟨[.ref l], []⟩ = pure [Value.ref l] := by kernel_rfl!
  refine Calls.call_function_entry (by decide +kernel) (by decide +kernel) kdk_entry_iter (kdk_args_iter _) (wpAny_bind (wpAny_of_eq one ?_))
  exact wpAny_bind (iterL s S hl fun it h' S' hn => wpAny_pure ⟨_, rfl, k it h' S' hn⟩)
end
end Mine
end
section
open PySem PySem.W PySem.W.X PyProof.Rows
set_option maxRecDepth 100000
set_option maxHeartbeats 1000000
namespace Mine
theorem bmAt (w : World) : gN w (Str.ofString "__builtins__") = some (.ref 4) := by kernel_rfl!
theorem Gd.bAt {w : World} {h : Heap} (G : Gd w h) {P : Addr} (hP : P ∈ tabs) : h.BuiltinsAt (gN w) P :=
  ⟨4, _, bmAt w, by decide, by decide, fun q => by rw [← q] at hP; exact absurd hP (by decide), G 4 _ rfl (by decide), rfl, rfl, rfl⟩
theorem Gd.cd97 {w : World} {h : Heap} (G : Gd w h) : CodeHd h 101 97 := ⟨_, _, _, _, _, _, _, _, _, G 101 _ rfl (by decide), rfl, rfl, rfl, rfl, rfl, rfl, rfl, rfl, by decide⟩
theorem Gd.cd109 {w : World} {h : Heap} (G : Gd w h) : CodeHd h 113 109 := ⟨_, _, _, _, _, _, _, _, _, G 113 _ rfl (by decide), rfl, rfl, rfl, rfl, rfl, rfl, rfl, rfl, by decide⟩
/-- a nested lambda's table is empty or filled -/
noncomputable def TbOk (P : Addr) (h : Heap) : Prop := ∃ o, h.get? P = some o ∧ (o = tabObj #[] ∨ ∃ c, o = gT P c ∧ c ∉ tabs ∧ h.CodeRec (.ref c) (qOf P))
theorem TbOk.kp {P : Addr} {h h' : Heap} (T : TbOk P h) (hP : P = 97 ∨ P = 109) (k : Kp h h') : TbOk P h' := by
  obtain ⟨o, e, g⟩ := T
  obtain ⟨o', e', g'⟩ := k.tb P o e (by rcases hP with rfl | rfl <;> decide)
  refine ⟨o', e', ?_⟩
  rcases g' with rfl | ⟨_, c, rfl, nc, rc⟩ | ⟨z, _⟩
  rotate_left 2
  · rcases hP with rfl | rfl <;> rcases z with z | z <;> cases z
  · rcases g with rfl | ⟨c, rfl, nc, rc⟩
    · exact .inl rfl
    · exact .inr ⟨c, rfl, nc, codeRec_kp rc k nc⟩
  · exact .inr ⟨c, rfl, nc, rc⟩
/-- the tables are there -/
noncomputable def Ta (h : Heap) : Prop := ∀ P ∈ tabs, ∃ o, h.get? P = some o
theorem Ta.kp {h h' : Heap} (x : Ta h) (k : Kp h h') : Ta h' := fun P hP =>
  let ⟨_, e⟩ := x P hP
  let ⟨o', e', _⟩ := k.tb P _ e hP
  ⟨o', e'⟩
theorem Ta.new {h : Heap} {a : Addr} (x : Ta h) (e : h.get? a = none) : a ∉ tabs := fun n => by
  obtain ⟨o, q⟩ := x a n
  rw [e] at q; cases q
section
variable {w : World} {A : Around} {s : Shared} {Q E : Value → Shared → Prop} {h : Heap} {tk : Nat} {env : Env} {P c : Addr} {params : Arguments} {body : Expr} {scope : Scope} {pos : Pos} {clos : List (Str × Addr)}
theorem mkLam (s : Shared) (G : Gd w h) (T : TbOk P h) (hP : P ∈ tabs) (hcode : env.code = .ref c) (C : CodeHd h c P) (hgl : env.globals = 3) (hcl : closureFor scope env = pure clos) (hl : (pos.line : Int) = lnOf P) (hc : pos.col = 18)
    (hq : env.qual ++ ("<lambda>" : Str) = qOf P) (hdef : defaultsOf params env = ([], []))
    (k : ∀ q h' tk', Kp h h' → Lam h' q (.Lambda params body scope pos) clos → Q (.ref q) (sh s h' tk')) : wpAny (MM w) A (eval (.Lambda params body scope pos) env) Q E (sh s h tk) := by
  refine kla_eval hdef ?_
  obtain ⟨o, e, g⟩ := T
  have hgP : mainGlobals ≠ P := fun q => by rw [← q] at hP; exact absurd hP (by decide)
  rcases g with rfl | ⟨c', rfl, nc, rc⟩
  · refine kla_makeFunction (s := sh s h tk) (ps := #[]) hcl hgl G.g hcode C e trivial rfl hgP (G.bAt hP) fun c' ctv h' tk' hx hge hlt hrec htb => ?_
    have nc : c' ∉ tabs := not_tab (Nat.le_trans G.size hge)
    rw [hq] at hrec
    have kp : Kp h (h'.push (kla_obj "<lambda>" (env.qual ++ ("<lambda>" : Str)) params body scope clos ((gN w "__name__").getD .none) c' ctv)) := by
      refine ⟨fun b o e n => Heap.get?_push_of_some _ (hx b o (fun q => n (q ▸ hP)) e), fun P' o' e' m => ?_⟩
      by_cases z : P' = P
      · subst z
        rw [e] at e'
        cases e'
        refine ⟨_, Heap.get?_push_of_some _ htb, .inr (.inl ⟨rfl, c', ?_, nc, hrec.push _⟩)⟩
        show tabObj (#[] ++ #[rawInt (pos.line : Int), rawInt (pos.col : Int), .ref c']) = _
        rw [hl, hc]
        rfl
      · exact ⟨o', Heap.get?_push_of_some _ (hx P' o' z e'), .inl rfl⟩
    refine k _ _ _ kp ⟨not_tab (Nat.le_trans G.size (Nat.le_trans hge (Nat.le_of_lt hlt))), _, _, _, c', ctv, nc, Heap.get?_push_size _ rfl, ?_⟩
    rw [hq]
    exact hrec.push _
  · have hf : codeAmong pos [Value.int (lnOf P) 0, .int 18 0, .ref c'] = some (.ref c') := by
      show codeAmong pos ([] ++ [Value.int (lnOf P) 0, .int 18 0, .ref c']) = _
      have := codeAmong_snoc (pos := pos) (c := .ref c') [] trivial rfl
      rw [hl, hc] at this
      exact this
    refine kla_makeFunctionHit (s := sh s h tk) (ps := #[.int (lnOf P) 0, .int 18 0, .ref c']) (cv := .ref c') hcl hgl G.g hcode C e ?_ hf (G.bAt hP) fun ctv h' tk' hk hsz => ?_
    · trivial
    refine k _ _ _ ((Kp.of hk).trans (Kp.push _ _)) ⟨not_tab (Nat.le_trans G.size hsz), _, _, _, c', ctv, nc, Heap.get?_push_size _ rfl, ?_⟩
    rw [hq]
    exact (rc.keeps hk).push _
/-- a def with cells is entered -/
theorem enterC {a : Addr} {o : Obj} {fd : FuncData} {body : List Stmt} {vals : List Value} {binds : List (Str × Value)} (G : Gd w s.heap) (hroom : A.depth < recursionLimit) (ho : s.heap.get? a = some o) (hd : o.data = .func fd)
    (hcd : s.heap.CodeRec fd.code fd.qualname) (hbody : fd.body = .stmts body) (hbind : bindArgs fd ⟨vals, []⟩ = pure binds) (hclo : fd.closure = [])
    (hkind : ∀ x ∈ binds, fd.scope.names.lookup x.1 = some .local ∨ (fd.scope.names.lookup x.1 = some .cell ∧ ((cellsFrom (s.heap.objs.size + 1) fd.scope.names []).lookup x.1).isSome = true))
    (h : ∀ h₁ tk, St w s.heap s.heap.objs.size (bindL (callEnvC fd s.heap.objs.size a).kindOf binds fun _ => none) [] h₁ →
      (∀ n c v, (callEnvC fd s.heap.objs.size a).cells.lookup n = some c → bindC (callEnvC fd s.heap.objs.size a).kindOf binds (fun _ => none) n = some v → Cl h₁ c v) →
      wpAny (MM w) (A.deeper (callEnvC fd s.heap.objs.size a)) (execs body (callEnvC fd s.heap.objs.size a)) (fun f s' => Q (rv f) s') (fun _ _ => False) (sh s h₁ tk))
    (hco : fd.scope.isCoroutine = false := by rfl) (hgen : fd.scope.isGenerator = false := by rfl) (hk : fd.scope.kind = .function := by rfl) :
    wpAny (MM w) A (call (.ref a) vals) Q E s := by
  refine wpAny_call (codeAny_call_cells hroom ho hd G.lim hcd hbody hbind hclo hkind (fun s₁ X => ?_) hco hgen hk)
  obtain ⟨h₁, tk, rfl⟩ := X.toInCall.same
  have kp : Kp s.heap h₁ := Kp.of X.toInCall.keep
  refine wpAny_mono (h h₁ tk ⟨X.toInCall.ns, kp, G, fun _ hp => (nomatch hp), Nat.le_refl _⟩ fun n c v hc hv => ?_) (fun f s' q => ?_) fun _ _ q => q.elim
  · have z := X.cell n c hc
    rw [hv] at z
    exact ⟨not_tab (Nat.le_trans G.size (Nat.le_of_lt (X.above n c (mem_of_lookup hc)))), z⟩
  · cases f <;> exact q
theorem nameC {c : Addr} {v : Value} {x : Str} {pos : Pos} (hk : env.scope.kind = .function) (hl : env.kindOf x = some .cell) (hc : env.cells.lookup x = some c) (hv : s.heap.IsCell c (some v)) (hd : (x == ("__debug__" : Str)) = false) (h : Q v s) :
    wpAny (MM w) A (eval (.Name x pos) env) Q E s := wpAny_Name (wpAny_loadName_cell hk hl hc hv h) hd
theorem St.comp {h₀ h' : Heap} {L D : Addr} {m m' : Str → Option Value} {N : List (Addr × Obj)} {oD : Obj} (S : St w h₀ L m N h) (ta : Ta h) (hn : h'.Ns L m') (he : ∀ b o, b ≠ L → h.get? b = some o → h'.get? b = some o) (hD : h.get? D = none) (pl : h'.get? D = some oD) :
    St w h₀ L m' ((D, oD) :: N) h' := by
  have nD := ta.new hD
  have DL : D ≠ L := fun q => by
    obtain ⟨o, _, _, e, _⟩ := S.ns
    rw [← q, hD] at e; cases e
  have D0 : h₀.get? D = none := by
    cases q : h₀.get? D with
    | none => rfl
    | some o =>
      have := S.kp.at_ D o q nD
      rw [hD] at this; cases this
  refine ⟨hn, S.kp.same (Heap.get?_none_of_le S.hi) S.ns.choose_spec.choose_spec.choose_spec.1 (noCode_dict S.ns.choose_spec.choose_spec.choose_spec.2.1) he, S.g0, fun p hp => ?_, S.hi⟩
  rcases List.mem_cons.mp hp with rfl | hp
  · exact ⟨pl, DL, nD, D0⟩
  · have z := S.nw p hp
    exact ⟨he _ _ z.2.1 z.1, z.2⟩
end
end Mine
end
section
open PySem PySem.W PySem.W.X PyProof.Rows
set_option maxRecDepth 100000
set_option maxHeartbeats 1000000
namespace Mine
/-! law's own lambdas: the first with the heap's size -/
theorem Gd.cd121 {w : World} {h : Heap} (G : Gd w h) : CodeHd h 123 121 := ⟨_, _, _, _, _, _, _, _, _, G 123 _ rfl (by decide), rfl, rfl, rfl, rfl, rfl, rfl, rfl, rfl, by decide⟩
section
variable {M : Model} {A : Around} {E : Value → Shared → Prop}
theorem codeZ {ctx : CodeContext} {name qual : Str} {n1 n2 n3 n4 n5 : Nat} {fr : List Str} {isF : Bool} {pr : Option Nat} {l : List Str × List Str} {fd : FuncData} {Q : Value → Shared → Prop} {s : Shared}
    (k : ∀ c h' tk, (∀ b o, s.heap.get? b = some o → h'.get? b = some o) → s.heap.objs.size ≤ c → c < h'.objs.size → h'.objs.size = s.heap.objs.size + 6 → h'.CodeRec (.ref c) qual → Q (.ref c) { s with heap := h', toks := tk }) :
    wpAny M A (newCode ctx name qual n1 n2 n3 n4 n5 fr isF pr (some l) (some fd)) Q E s := by
  obtain ⟨h, g, dr, tk, os⟩ := s
  have up : ∀ {h : Heap} {o p} {b : Addr}, h.get? b = some o → (h.push p).get? b = some o := fun e => Heap.get?_push_of_some _ e
  unfold newCode
  iterate 3 (wp_walk using wpAny_mkText, wpAny_mkStrs; intro _)
  wp_walk using wpAny_mkText, wpAny_mkStrs
  refine k _ _ _ (fun b o e => up (up (up (up (up (up e)))))) ?_ ?_ ?_ ⟨_, _, _, _, rfl, Heap.get?_push_size _ rfl, rfl, rfl⟩
  all_goals (simp only [size_push']; try omega)
/-- what the code's table becomes when a code is laid in it -/
theorem tab_grown {h : Heap} {P : Addr} {ps : Array Value} {pos : Pos} {c : Value} (e : h.get? P = some (tabObj ps)) (n : codeAmong pos ps.toList = none) :
    (h.update P (Obj.mapFields fun vs => if (codeAmong pos vs.toList).isSome = true then vs else vs ++ #[rawInt pos.line, rawInt pos.col, c])).get? P = some (tabObj (ps ++ #[rawInt pos.line, rawInt pos.col, c])) := by
  have q : Obj.mapFields (fun vs => if (codeAmong pos vs.toList).isSome = true then vs else vs ++ #[rawInt pos.line, rawInt pos.col, c]) (tabObj ps) = tabObj (ps ++ #[rawInt pos.line, rawInt pos.col, c]) := by
    simp only [Obj.mapFields, tabObj, n, Option.isSome_none, Bool.false_eq_true, if_false]
  rw [← q]
  exact Heap.get?_update_self _ e (by rw [q]; rfl)
theorem fcodeZ {env : Env} {c P : Addr} {ps : Array Value} {pos : Pos} {n : Nat} {name qual : Str} {p : Arguments} {scope : Scope} {body : FuncBody} {l : List Str × List Str} {Q : Value → Shared → Prop} {s : Shared} (hc : env.code = .ref c) (C : CodeHd s.heap c P) (hP : s.heap.get? P = some (tabObj ps)) (ht : TriplesOk ps.toList)
    (hnf : codeAmong pos ps.toList = none) (hl : localNames p scope body = some l)
    (k : ∀ c' h' tk, Heap.ExtBut P s.heap h' → s.heap.objs.size ≤ c' → c' < h'.objs.size → h'.objs.size = s.heap.objs.size + 6 → h'.CodeRec (.ref c') qual → h'.get? P = some (tabObj (ps ++ #[rawInt pos.line, rawInt pos.col, .ref c'])) → Q (.ref c') { s with heap := h', toks := tk }) :
    wpAny M A (functionCode env pos n name qual p scope body) Q E s := by
  obtain ⟨o, vs, file, tf, fl, tg, inF, tx, tt, at_, -, dat, -, v11, v18, v7, v9, v10, -⟩ := C
  have nn : (Value.ref c == Value.none) = false := rfl
  unfold functionCode codeAt
  rw [hc, hl, nn, if_neg Bool.false_ne_true]
  refine wpAny_bind (wpAny_fieldsOf at_ dat ?_)
  rw [v11]
  refine wpAny_bind (wpAny_fieldsOf hP rfl ?_)
  rw [hnf, v18, v7, v9, v10]
  refine wpAny_bind (codeZ fun c' h' tk keep ge lt size rec_ => wpAny_bind (wpAny_updateFieldsOfTheText (keep _ _ hP) rfl ?_))
  have made : c' ≠ P := fun q => absurd (Heap.lt_size hP) (Nat.not_lt.mpr (q ▸ ge))
  have same := Heap.SameBut.update h' P (Obj.mapFields fun vs => if (codeAmong pos vs.toList).isSome = true then vs else vs ++ #[rawInt pos.line, rawInt pos.col, .ref c'])
  have T := tab_grown (c := .ref c') (keep _ _ hP) hnf
  refine wpAny_bind (wpAny_fieldsOf T rfl ?_)
  have found : codeAmong pos (ps ++ #[rawInt pos.line, rawInt pos.col, Value.ref c']).toList = some (.ref c') := Array.toList_append ▸ codeAmong_snoc ps.toList ht hnf
  rw [found]
  refine wpAny_pure (k c' _ tk (fun b o z e => (same.2 b z).trans (keep b o e)) ge ?_ ?_ ?_ T)
  · rwa [Heap.size_update]
  · rwa [Heap.size_update]
  · obtain ⟨_, o', vs', t', ⟨⟩, e1, e2⟩ := rec_
    exact ⟨_, o', vs', t', rfl, (same.2 _ made).trans e1, e2⟩
end
section
variable {w : World} {A : Around} {s : Shared} {Q E : Value → Shared → Prop} {h : Heap} {tk : Nat} {env : Env} {params : Arguments} {body : Expr} {scope : Scope} {pos : Pos} {clos : List (Str × Addr)} {ps : Array Value}
theorem kp121 {h' : Heap} {o : Obj} {c' : Addr} {ps' : Array Value} (hP : h.get? 121 = some (tabObj ps)) (hx : Heap.ExtBut 121 h h') (htb : h'.get? 121 = some (tabObj ps')) : Kp h (h'.push o) := by
  refine ⟨fun b o e n => Heap.get?_push_of_some _ (hx b o (fun q => n (by rw [q]; decide)) e), fun P' o' e' m => ?_⟩
  by_cases z : P' = 121
  · subst z
    exact ⟨_, Heap.get?_push_of_some _ htb, .inr (.inr ⟨.inr rfl, _, rfl⟩)⟩
  · exact ⟨o', Heap.get?_push_of_some _ (hx P' o' z e'), .inl rfl⟩
/-- a lambda of law's -/
theorem mkLaw (s : Shared) (G : Gd w h) (hP : h.get? 121 = some (tabObj ps)) (ht : TriplesOk ps.toList) (hnf : codeAmong pos ps.toList = none) (hcode : env.code = .ref 123) (hgl : env.globals = 3) (hcl : closureFor scope env = pure clos) (hdef : defaultsOf params env = ([], []))
    (k : ∀ q h' tk' c', (∀ b o, b ≠ 121 → h.get? b = some o → h'.get? b = some o) → Kp h h' → Lam h' q (.Lambda params body scope pos) clos → h'.get? 121 = some (tabObj (ps ++ #[rawInt pos.line, rawInt pos.col, .ref c'])) → Q (.ref q) (sh s h' tk')) : wpAny (MM w) A (eval (.Lambda params body scope pos) env) Q E (sh s h tk) := by
  refine kla_eval hdef ?_
  refine kla_makeFunction (s := sh s h tk) hcl hgl G.g hcode G.cd121 hP ht hnf (by decide) (G.bAt (by decide)) fun c' ctv h' tk' hx hge hlt hrec htb => ?_
  exact k _ _ _ c' (fun b o n e => Heap.get?_push_of_some _ (hx b o n e)) (kp121 (c' := c') hP hx htb) ⟨not_tab (Nat.le_trans G.size (Nat.le_trans hge (Nat.le_of_lt hlt))), _, _, _, c', ctv, not_tab (Nat.le_trans G.size hge), Heap.get?_push_size _ rfl, hrec.push _⟩ (Heap.get?_push_of_some _ htb)
/-- law's first lambda, with the heap's size -/
theorem mkLawZ (s : Shared) {x : Str} {cx : Addr} (G : Gd w h) (hP : h.get? 121 = some (tabObj ps)) (ht : TriplesOk ps.toList) (hnf : codeAmong pos ps.toList = none) (hcode : env.code = .ref 123) (hgl : env.globals = 3) (hcl : closureFor scope env = pure [(x, cx)]) (hdef : defaultsOf params env = ([], []))
    {l : List Str × List Str} (hlo : localNames params scope (.expr body) = some l)
    (k : ∀ q h' tk' c', q = h.objs.size + 7 → (∀ b o, b ≠ 121 → h.get? b = some o → h'.get? b = some o) → Kp h h' → Lam h' q (.Lambda params body scope pos) [(x, cx)] → h'.get? 121 = some (tabObj (ps ++ #[rawInt pos.line, rawInt pos.col, .ref c'])) → h'.objs.size = h.objs.size + 8 → Q (.ref q) (sh s h' tk')) :
    wpAny (MM w) A (eval (.Lambda params body scope pos) env) Q E (sh s h tk) := by
  refine kla_eval hdef ?_
  rw [makeFunction_eq]
  simp only [List.zip_nil_right, List.filterMap_nil, List.isEmpty_nil, if_true, pure_bind]
  obtain ⟨bm, ob, hbm, hne0, _, hneP, hbo, hcls, hdict, hdata⟩ := G.bAt (show 121 ∈ tabs by decide)
  unfold makeTail
  rw [hcl, hgl]
  refine wpAny_bind (wpAny_pure ?_)
  simp only [List.isEmpty_cons, Bool.false_eq_true, if_false]
  refine wpAny_bind (wpAny_newTextTuple ?_)
  have kp1 : ∀ o, Kp h (h.push o) := fun o => Kp.push h o
  refine wpAny_bind (fcodeZ hcode (G.kp (kp1 _)).cd121 (Heap.get?_push_of_some _ hP) ht hnf hlo fun c' h' tk' hx hge hlt hsz hrec htb => ?_)
  have hx' : Heap.ExtBut 121 h h' := fun b o hb' e => hx b o hb' (Heap.get?_push_of_some _ e)
  have hz : h'.objs.size = h.objs.size + 7 := by rw [hsz]; simp only [Heap.size_push]
  have hg' := (G.g.push _).extBut hx (show mainGlobals ≠ 121 by decide)
  refine wpAny_bind (wpAny_builtinsFor hg' hbm hne0 (hx' _ _ hneP hbo) hcls hdict hdata ?_)
  refine wpAny_bind (wpAny_nsGet hg' ?_)
  refine wpAny_bind (wpAny_pure (wpAny_newObj_type ?_ (by size_fits)))
  have hge' : h.objs.size ≤ c' := Nat.le_trans (by simp only [Heap.size_push]; omega) hge
  have hL : ∀ ctv, Lam (h'.push (kla_obj "<lambda>" (env.qual ++ ("<lambda>" : Str)) params body scope [(x, cx)] ((gN w "__name__").getD .none) c' ctv)) h'.objs.size (.Lambda params body scope pos) [(x, cx)] := fun ctv =>
    ⟨not_tab (Nat.le_trans G.size (Nat.le_trans hge' (Nat.le_of_lt hlt))), _, _, _, c', ctv, not_tab (Nat.le_trans G.size hge'), Heap.get?_push_size _ rfl, hrec.push _⟩
  exact k _ _ tk' c' hz (fun b o n e => Heap.get?_push_of_some _ (hx' b o n e)) (kp121 (c' := c') hP hx' htb) (hL _) (Heap.get?_push_of_some _ htb) (by rw [size_push', hz])
end
end Mine
end
section
open PySem PySem.W PySem.W.X PyProof.Rows
set_option maxRecDepth 100000
set_option maxHeartbeats 1000000
namespace Mine
/-! a dict comprehension over a range, with the heap's size -/
theorem valueAt_cons {p : Int × Value} {l : List (Int × Value)} {k : Int} : valueAt (p :: l) k = if p.1 = k then some p.2 else valueAt l k := by
  unfold valueAt
  rw [List.find?_cons]
  by_cases z : p.1 = k
  · simp [z]
  · simp [z]
theorem valueAt_map {k k' : Int} {v : Value} : ∀ {l : List (Int × Value)}, valueAt (l.map fun kv => if kv.1 = k then (kv.1, v) else kv) k' = if k' = k then (if (l.any fun kv => kv.1 = k) = true then some v else none) else valueAt l k'
  | [] => by by_cases z : k' = k <;> simp [valueAt, z]
  | p :: l => by
    rw [List.map_cons, valueAt_cons, valueAt_map, valueAt_cons, List.any_cons]
    by_cases a : p.1 = k
    · rw [if_pos a]
      by_cases b : k' = k
      · have c : p.1 = k' := a.trans b.symm
        simp [b, a]
      · have c : ¬ p.1 = k' := fun q => b (q.symm.trans a)
        have d : ¬ k = k' := fun q => b q.symm
        simp [b, a, d]
    · rw [if_neg a]
      by_cases b : k' = k
      · have c : ¬ p.1 = k' := fun q => a (q.trans b)
        have d : (decide (p.1 = k) || l.any fun kv => decide (kv.1 = k)) = l.any fun kv => decide (kv.1 = k) := by rw [decide_eq_false a, Bool.false_or]
        rw [d]
        simp [b, a]
      · simp [b]
theorem valueAt_stored {l : List (Int × Value)} {k k' : Int} {v : Value} : valueAt (stored l k v) k' = if k' = k then some v else valueAt l k' := by
  unfold stored
  split
  · rename_i h
    rw [valueAt_map, if_pos h]
  · rename_i h
    have hn : valueAt l k = none := by
      cases q : valueAt l k with
      | none => rfl
      | some y =>
        exfalso
        apply h
        unfold valueAt at q
        obtain ⟨x, hx, _⟩ := Option.map_eq_some_iff.mp q
        exact List.any_eq_true.mpr ⟨x, List.mem_of_find?_eq_some hx, by simpa using List.find?_some hx⟩
    have ha : valueAt (l ++ [(k, v)]) k' = (valueAt l k').or (if k = k' then some v else none) := by
      unfold valueAt
      rw [List.find?_append]
      cases l.find? fun kv => kv.1 = k' with
      | some x => rfl
      | none =>
        by_cases z : k = k'
        · simp [z]
        · simp [z]
    rw [ha]
    by_cases z : k' = k
    · subst z
      rw [hn, if_pos rfl]; simp
    · rw [if_neg z, if_neg (fun q => z q.symm), Option.or_none]
section
variable {prog : Program} {w : World} {A : Around} {E : Value → Shared → Prop} {s : Shared}
theorem endRZ {it : Addr} {x left step : Int} {Q : Option Value → Shared → Prop} (hh : A.handled = none) (hit : IsRangeIter s.heap it x left step) (hleft : left ≤ 0)
    (k : ∀ h', Heap.ExtBut it s.heap h' → h'.objs.size = s.heap.objs.size + 2 → Q none { s with heap := h' }) : wpAny (model prog w) A (pyNext (.ref it)) Q E s := by
  have ty : s.TypeIs (.ref it) "range_iterator" := ⟨_, hit, rfl⟩
  have fm : firstArgMember (.type "StopIteration") [] = pure .none := by simp only [firstArgMember]; rfl
  unfold pyNext
  refine wpAny_bind (wpAny_attempt (wpAny_callSpecial?_slot ty F.slot_range_iterator_next (wpAny_call_entry F.slot_range_iterator_next ty F.entry_range_iterator_next ?_ (F.args_range_iterator_next_1 _))))
  unfold Builtin.«range_iterator.__next__»
  wp_walk using wpAny_field hit rfl rfl
  refine wpAny_raiseNew_none hh ?_
  wp_walk
  refine wpAny_of_eq isSubtype_stop (wpAny_ite_true rfl (wpAny_pure (k _ ?_ ?_)))
  · exact fun b o _ e => Heap.get?_push_of_some _ (Heap.get?_push_of_some _ e)
  · simp only [size_push']
variable {R : Result → Shared → Prop}
theorem dictLoopZ {kx vx iter : Expr} {x : Str} {px : Pos} {scope : Scope} {pos : Pos} {I D : Addr} {n : Nat} {f : Nat → Int} {cenv : Env} {m : Str → Option Value} (hh : A.handled = none)
    (hx : cenv.kindOf x = some .local) (hp : (cenv.scope.kind == .class || (cenv.scope.kind == .module && cenv.locals != cenv.globals)) = false)
    (hDC : D ≠ cenv.locals) (hDI : D ≠ I) (hCI : cenv.locals ≠ I) (hit : IsRangeIter s.heap I 0 n 1) (hacc : s.heap.DictOf (intKind prog w) D []) (hn : s.heap.Ns cenv.locals m) (hz : n ≤ 1000)
    (hkey : ∀ i t s₂ m₂ E', i < n → s₂.heap.Ns cenv.locals m₂ → m₂ x = some (.int (i : Nat) t) → (∀ b o, b ≠ cenv.locals → b ≠ I → b ≠ D → s.heap.get? b = some o → s₂.heap.get? b = some o) →
      wpAny (model prog w) A (eval kx cenv) (fun key s₃ => (∃ t, key = .int (f i) t) ∧ ∃ tk, s₃ = { s₂ with toks := tk }) E' s₂)
    (hval : ∀ i t s₂ m₂ E', i < n → s₂.heap.Ns cenv.locals m₂ → m₂ x = some (.int (i : Nat) t) → wpAny (model prog w) A (eval vx cenv) (fun y s₃ => (∃ t, y = .int (i : Nat) t) ∧ s₃ = s₂) E' s₂)
    (hinj : ∀ i j, i < n → j < n → f i = f j → i = j)
    (hR : ∀ h' tk m' kvs, h'.Ns cenv.locals m' → h'.DictOf (intKind prog w) D kvs → (∀ i, i < n → ∃ t, valueAt kvs (f i) = some (.int (i : Nat) t)) → (∀ b o, b ≠ cenv.locals → b ≠ I → b ≠ D → s.heap.get? b = some o → h'.get? b = some o) → h'.objs.size = s.heap.objs.size + 2 → R (.ok .next) { s with heap := h', toks := tk }) :
    codeAny (model prog w) A (.compLoop (.DictComp kx vx [⟨.Name x px, iter, [], 0⟩] scope pos) 0 (.ref I) (.ref D) cenv) R s := by
  refine codeAny_compLoop_testsD (fun k s' => ∃ (i : Nat) (h' : Heap) (tk : Nat) (m' : Str → Option Value) (kvs : List (Int × Value)), s' = { s with heap := h', toks := tk } ∧ k + i = n + 1 ∧ i ≤ n ∧ IsRangeIter h' I i (n - i) 1 ∧ h'.DictOf (intKind prog w) D kvs ∧ h'.Ns cenv.locals m' ∧
    (∀ j, j < i → ∃ t, valueAt kvs (f j) = some (.int (j : Nat) t)) ∧ kvs.length ≤ i ∧ (∀ b o, b ≠ cenv.locals → b ≠ I → b ≠ D → s.heap.get? b = some o → h'.get? b = some o) ∧ h'.objs.size = s.heap.objs.size) ?_ (n + 1)
    ⟨0, s.heap, s.toks, m, [], rfl, rfl, Nat.zero_le _, by simpa using hit, hacc, hn, fun j hj => absurd hj (Nat.not_lt_zero _), Nat.zero_le _, fun _ _ _ _ _ e => e, rfl⟩
  rintro k s' ⟨i, h', tk, m', kvs, rfl, hk, hi, hit', hD, hN, hv, hl, hkeep, hsz⟩
  by_cases hlt : i < n
  · refine wpAny_pyNext_range_item hit' (by omega) fun h₁ hit₁ hs₁ => ?_
    have q1 : (i : Int) + 1 = ((i + 1 : Nat) : Int) := by omega
    have q2 : (n : Int) - (i : Int) - 1 = (n : Int) - ((i + 1 : Nat) : Int) := by omega
    rw [q1, q2] at hit₁
    refine wpAny_assign_Name (wpAny_storeName_local hx (hN.sameBut hs₁ hCI) (fun h₂ hn₂ hs₂ => ?_) hp)
    have hit₂ : IsRangeIter h₂ I ((i + 1 : Nat) : Int) ((n : Int) - ((i + 1 : Nat) : Int)) 1 := (hs₂.2 I (Ne.symm hCI)).trans hit₁
    have hD₂ : h₂.DictOf (intKind prog w) D kvs := (hD.at fun o e => (hs₁.2 D hDI).trans e).at fun o e => (hs₂.2 D hDC).trans e
    have keep₂ : ∀ b o, b ≠ cenv.locals → b ≠ I → b ≠ D → s.heap.get? b = some o → h₂.get? b = some o := fun b o b1 b2 b3 e => (hs₂.2 b b1).trans ((hs₁.2 b b2).trans (hkeep b o b1 b2 b3 e))
    have hz₂ : h₂.objs.size = s.heap.objs.size := hs₂.1.trans (hs₁.1.trans hsz)
    rw [List.forIn_nil]
    refine wpAny_pure ?_
    rw [if_pos rfl]
    refine wpAny_mono (hkey i _ _ _ _ hlt hn₂ (if_pos rfl) keep₂) (fun key s₃ h₃ => ?_) fun _ _ e => e
    obtain ⟨⟨t3, rfl⟩, tk3, rfl⟩ := h₃
    refine wpAny_mono (hval i _ _ _ _ hlt hn₂ (if_pos rfl)) (fun y s₄ h₄ => ?_) fun _ _ e => e
    obtain ⟨⟨t4, rfl⟩, rfl⟩ := h₄
    refine wpAny_dictSet_pairs (knd := intKind prog w) (k := f i) (by simp [intKind, Value.isInt]) hD₂ (fun h₅ hD₅ hs₅ => ?_) (by rw [sizeLine_eq]; omega)
    refine ⟨k - 1, by omega, i + 1, h₅, _, _, _, rfl, by omega, hlt, (hs₅.2 I (Ne.symm hDI)).trans hit₂, hD₅, hn₂.sameBut hs₅ (Ne.symm hDC), fun j hj => ?_, ?_, fun b o b1 b2 b3 e => (hs₅.2 b b3).trans (keep₂ b o b1 b2 b3 e), hs₅.1.trans hz₂⟩
    · rw [valueAt_stored]
      by_cases z : j = i
      · subst z
        exact ⟨t4, if_pos rfl⟩
      · rw [if_neg fun q => z (hinj j i (by omega) hlt q)]
        exact hv j (by omega)
    · exact Nat.le_trans (stored_length_le kvs (f i) _) (by omega)
  · have hin : i = n := by omega
    subst hin
    refine endRZ hh hit' (by omega) fun h₁ he hz₁ => ?_
    have hN₁ : h₁.Ns cenv.locals m' := hN.at' fun o e => he _ o hCI e
    exact hR h₁ tk m' kvs hN₁ (hD.at fun o e => he D o hDI e) hv (fun b o b1 b2 b3 e => he b o b2 (hkeep b o b1 b2 b3 e)) (by rw [hz₁]; show h'.objs.size + 2 = _; rw [hsz])
/-- the whole block: the dict, the frame, the loop -/
theorem dictBlockZ {kx vx iter : Expr} {x : Str} {px : Pos} {scope : Scope} {cl : List (Str × Addr)} {pos : Pos} {env : Env} {I : Addr} {n : Nat} {f : Nat → Int} {RR : Value → Addr → Result → Shared → Prop} (hh : A.handled = none)
    (hcell : ∀ y ∈ scope.names, y.2 ≠ .cell) (hkind : scope.kind = .function) (hx : scope.names.lookup x = some .local) (hit : IsRangeIter s.heap I 0 n 1) (hz : n ≤ 1000)
    (hkey : ∀ C i t s₂ m₂ E', i < n → s₂.heap.Ns C m₂ → m₂ x = some (.int (i : Nat) t) → (∀ b o, b ≠ I → s.heap.get? b = some o → s₂.heap.get? b = some o) →
      wpAny (model prog w) A (eval kx (compEnvC scope cl C env)) (fun key s₃ => (∃ t, key = .int (f i) t) ∧ ∃ tk, s₃ = { s₂ with toks := tk }) E' s₂)
    (hval : ∀ C i t s₂ m₂ E', i < n → s₂.heap.Ns C m₂ → m₂ x = some (.int (i : Nat) t) → wpAny (model prog w) A (eval vx (compEnvC scope cl C env)) (fun y s₃ => (∃ t, y = .int (i : Nat) t) ∧ s₃ = s₂) E' s₂)
    (hinj : ∀ i j, i < n → j < n → f i = f j → i = j)
    (hR : ∀ h' tk C m' kvs, C = s.heap.objs.size + 1 → h'.Ns C m' → h'.DictOf (intKind prog w) s.heap.objs.size kvs → (∀ i, i < n → ∃ t, valueAt kvs (f i) = some (.int (i : Nat) t)) → (∀ b o, b ≠ I → s.heap.get? b = some o → h'.get? b = some o) → h'.objs.size = s.heap.objs.size + 4 →
      RR (.ref s.heap.objs.size) C (.ok .next) { s with heap := h', toks := tk }) :
    wpAny (model prog w) A newDict (fun acc s₃ => wpAny (model prog w) A (newFunctionEnv scope env.globals cl [] env.qual none .none (some env)) (fun cenv s₄ =>
      codeAny (model prog w) A (.compStart (.DictComp kx vx [⟨.Name x px, iter, [], 0⟩] scope pos) 0 (.ref I) acc { cenv with scope := relabel scope env }) (RR acc cenv.locals) s₄) E s₃) E s := by
  refine wpAny_newObj_type (wpAny_newFunctionEnv hcell (fun _ y => nomatch y) (fun h₁ nsC same => ?_) hkind)
  dsimp only at nsC same ⊢
  -- the dict lies at the heap's end, the frame next to it; all else is as it was
  have zC : (s.heap.push { cls := .type "dict", dict := none, data := .dict #[] }).objs.size = s.heap.objs.size + 1 := size_push' _ _
  rw [zC] at nsC same ⊢
  have CD : s.heap.objs.size ≠ s.heap.objs.size + 1 := Nat.ne_of_lt (Nat.lt_succ_self _)
  have apart : ∀ b o, s.heap.get? b = some o → b ≠ s.heap.objs.size + 1 ∧ b ≠ s.heap.objs.size := fun b o e =>
    let lt := Heap.lt_size e
    ⟨Nat.ne_of_lt (Nat.lt_succ_of_lt lt), Nat.ne_of_lt lt⟩
  have two : ∀ b o, b ≠ s.heap.objs.size + 1 → (s.heap.push { cls := .type "dict", dict := none, data := .dict #[] }).get? b = some o → h₁.get? b = some o := fun b o z e => (same.2 b z).trans (Heap.get?_push_of_some _ e)
  have kept : ∀ b o, s.heap.get? b = some o → h₁.get? b = some o := fun b o e => two b o (apart b o e).1 (Heap.get?_push_of_some _ e)
  have size : h₁.objs.size = s.heap.objs.size + 2 := by rw [same.1, size_push', zC]
  obtain ⟨zI, zI'⟩ := apart I _ hit
  have run := dictLoopZ (s := { s with heap := h₁, toks := s.toks + ([] : List (Str × Value)).length }) (R := RR (.ref s.heap.objs.size) (s.heap.objs.size + 1)) (cenv := compEnvC scope cl (s.heap.objs.size + 1) env) (px := px) (iter := iter) (scope := scope) (pos := pos) (kx := kx) (vx := vx)
    hh (lookup_relabel_local hx) (by simp [compEnvC, relabel, hkind]) CD (Ne.symm zI') (Ne.symm zI) (kept _ _ hit) ((Heap.DictOf.new s.heap).at fun o => two _ o CD) nsC hz
    (fun i t s₂ m₂ E' hi hn hm hk => hkey _ i t s₂ m₂ E' hi hn hm fun b o hb e => hk b o (apart b o e).1 hb (apart b o e).2 (kept b o e)) (fun i t s₂ m₂ E' => hval _ i t s₂ m₂ E') hinj
    (fun h' tk m' kvs hn hd hv hk hz' => hR h' tk _ m' kvs rfl hn hd hv (fun b o hb e => hk b o (apart b o e).1 hb (apart b o e).2 (kept b o e)) (hz'.trans (congrArg (· + 2) size)))
  have at0 : IsRangeIter h₁ I (0 + ((0 : Nat) : Int) * 1) ((n : Int) - ((0 : Nat) : Int)) 1 := by simpa using kept _ _ hit
  exact codeAny_compStart_dict run ((Walks.range (prog := prog) (w := w) (A := A) hh I 0 1 n).self 0 _ _ _ at0 run)
end
end Mine
end
section
open PySem PySem.W PySem.W.X PyProof.Rows
set_option maxRecDepth 100000
set_option maxHeartbeats 1000000
namespace Mine
noncomputable abbrev lawFd (w : World) : FuncData := fdAt (mk.zo_125 w.params)
noncomputable abbrev lawBody (w : World) : List Stmt := bodyOf (mk.zo_125 w.params)
noncomputable abbrev lawEnv (w : World) : Env := callEnvC (lawFd w) 126 124
noncomputable abbrev sScript : Str := ⟨⟨[115, 99, 114, 105, 112, 116]⟩⟩
noncomputable abbrev cellO (v : Option Value) : Obj := { cls := .type "cell", data := .cell v }
section
variable {w : World} {s : Shared} {Q E : Value → Shared → Prop} {v : Value}
/-- law is entered -/
theorem enterLaw {A : Around} (G : Gd w s.heap) (hs : s.heap.objs.size = 126) (hroom : A.depth < recursionLimit)
    (h : ∀ h₁ tk, St w s.heap 126 (fun y => if y = sScript then some v else none) [(127, cellO none), (128, cellO none), (129, cellO none)] h₁ → h₁.objs.size = 130 → (∀ b o, s.heap.get? b = some o → h₁.get? b = some o) →
      wpAny (MM w) (A.deeper (lawEnv w)) (execs (lawBody w) (lawEnv w)) (fun f s' => Q (rv f) s') (fun _ _ => False) (sh s h₁ tk)) :
    wpAny (MM w) A (call (.ref 124) [v]) Q E s := by
  refine wpAny_call (codeAny_call_function hroom (G 124 _ rfl (by decide)) rfl rfl rfl rfl ⟨123, _, _, _, rfl, G 123 _ rfl (by decide), rfl, rfl⟩ ?_)
  have hb : bindArgs (lawFd w) ⟨[v], []⟩ = pure [(sScript, v)] := rfl
  show wpAny _ _ (bindArgs (lawFd w) ⟨[v], []⟩) _ _ _
  rw [hb]
  refine wpAny_pure ?_
  simp only [newFunctionEnv, Option.isSome_none, Bool.false_eq_true, if_false]
  refine wpAny_bind (wpAny_alloc ?_)
  refine wpAny_bind (wpAny_layCells _ (fun _ k _ => by by_cases z : k == NameKind.cell <;> simp [z]) _ _ _ _ ?_)
  have e : ∀ H : Heap, pushCells H (lawFd w).scope.names = ((H.push (cellO none)).push (cellO none)).push (cellO none) := fun H => rfl
  have ec : ∀ n, cellsFrom n (lawFd w).scope.names [] = [(⟨⟨[112, 108, 97, 99, 101, 115]⟩⟩, n + 1 + 1), (⟨⟨[109, 97, 114, 107, 115]⟩⟩, n + 1), (⟨⟨[97, 108, 112, 104, 97, 98, 101, 116]⟩⟩, n)] := fun n => rfl
  have hz : ({ s with heap := s.heap.push { cls := .type "frame", data := .dict #[] } } : Shared).heap.objs.size = 127 := by
    show (s.heap.push _).objs.size = 127
    rw [Heap.size_push, hs]
  rw [hz, hs]
  have e2 := e (s.heap.push { cls := .type "frame", data := .dict #[] })
  have s1 : (s.heap.push { cls := .type "frame", data := .dict #[] }).objs.size = 127 := hz
  have ns0 : (s.heap.push { cls := .type "frame", data := .dict #[] }).Ns 126 fun _ => none := by
    have := Heap.Ns.new s.heap (.type "frame")
    rw [hs] at this
    exact this
  have g1 : ∀ {H : Heap} {n : Nat} {o : Obj}, H.objs.size = n → o.isFreed = false → (H.push o).get? n = some o := fun q f => q ▸ Heap.get?_push_size _ f
  have s2 : ((s.heap.push { cls := .type "frame", data := .dict #[] }).push (cellO none)).objs.size = 128 := by rw [size_push', s1]
  have s3 : (((s.heap.push { cls := .type "frame", data := .dict #[] }).push (cellO none)).push (cellO none)).objs.size = 129 := by rw [size_push', s2]
  refine wpAny_bind ?_
  rw [List.forIn_cons]
  refine wpAny_bind (wpAny_bind ?_)
  have kp0 : Kp s.heap (pushCells (s.heap.push { cls := .type "frame", data := .dict #[] }) (lawFd w).scope.names) := by
    rw [e2]
    exact (((Kp.push _ _).trans (Kp.push _ _)).trans (Kp.push _ _)).trans (Kp.push _ _)
  have S0 : St w s.heap 126 (fun _ => none) [(127, cellO none), (128, cellO none), (129, cellO none)] (pushCells (s.heap.push { cls := .type "frame", data := .dict #[] }) (lawFd w).scope.names) := by
    refine ⟨?_, kp0, G, fun p hp => ?_, by rw [hs]; exact Nat.le_refl _⟩
    · rw [e2]; exact ((ns0.push _).push _).push _
    · rw [e2]
      have old : ∀ n, 126 ≤ n → s.heap.get? n = none := fun n hn => Heap.get?_none_of_le (by rw [hs]; exact hn)
      simp only [List.mem_cons, List.not_mem_nil, or_false] at hp
      rcases hp with rfl | rfl | rfl
      · exact ⟨Heap.get?_push_of_some _ (Heap.get?_push_of_some _ (g1 s1 rfl)), by decide, by decide, old _ (by decide)⟩
      · exact ⟨Heap.get?_push_of_some _ (g1 s2 rfl), by decide, by decide, old _ (by decide)⟩
      · exact ⟨g1 s3 rfl, by decide, by decide, old _ (by decide)⟩
  have z0 : (pushCells (s.heap.push { cls := .type "frame", data := .dict #[] }) (lawFd w).scope.names).objs.size = 130 := by rw [e2, size_push', s3]
  refine wpAny_storeName_local (env := lawEnv w) rfl S0.ns (fun h' hn' hs' => ?_) rfl
  have S1 := S0.store hn' hs'
  refine wpAny_pure ?_
  show wpAny (MM w) A.in1 (forIn ([] : List (Str × Value)) _ _) _ _ _
  rw [List.forIn_nil]
  refine wpAny_pure (wpAny_pure ⟨S1.gd.lim, codeAny_func ?_⟩)
  have hkeep : ∀ b o, s.heap.get? b = some o → h'.get? b = some o := fun b o q => by
    have lt : b < 126 := hs ▸ Heap.lt_size q
    refine (hs'.2 b (Nat.ne_of_lt lt)).trans ?_
    show (pushCells (s.heap.push { cls := .type "frame", data := .dict #[] }) (lawFd w).scope.names).get? b = some o
    rw [e2]
    exact Heap.get?_push_of_some _ (Heap.get?_push_of_some _ (Heap.get?_push_of_some _ (Heap.get?_push_of_some _ q)))
  refine wpAny_mono (h h' _ S1 (hs'.1.trans z0) hkeep) (fun f s' q => ?_) fun _ _ q => q.elim
  cases f <;> exact q
end
end Mine
end
section
open PySem PySem.W PySem.W.X PyProof.Rows
set_option maxRecDepth 100000
set_option maxHeartbeats 1000000
namespace Mine
/-! more tidy rules: products, powers, bits, lists that grow, extrema -/
/-- a plain list as an object -/
noncomputable def LaO (o : Obj) (its : Array Value) : Prop := o.cls = .type "list" ∧ o.dict = none ∧ ∃ n, o.data = .seq its n
theorem LaO.noCode {o : Obj} {its : Array Value} (x : LaO o its) : noCode o := noCode_seq x.2.2.choose_spec
theorem LaO.isL {h : Heap} {a : Addr} {o : Obj} {its : Array Value} (x : LaO o its) (e : h.get? a = some o) : h.IsList a its := ⟨o, e, x.1, x.2.2⟩
section
variable {w : World} {A : Around} {E : Value → Shared → Prop} {Q : Value → Shared → Prop} {s : Shared} {h : Heap} {tk : Nat} {a b : Int} {t u : Tok}
theorem mulI (ha : a.natAbs < 2 ^ 64) (hb : b.natAbs < 2 ^ 64) (k : Q (.int (a * b) tk) (sh s h (tk + 1))) : wpAny (MM w) A (binaryOp .Mult (.int a t) (.int b u)) Q E (sh s h tk) := PyProof.Rows.mul_int k (IntMulOk.of_right (intBits_le_64 (by omega) (by omega)))
theorem powI {n : Nat} (hn : n ≤ 1000) (ha : a.natAbs < 2 ^ 64) (k : Q (.int (a ^ n) tk) (sh s h (tk + 1))) : wpAny (MM w) A (binaryOp .Pow (.int a t) (.int (n : Int) u)) Q E (sh s h tk) := pow_int_small (by omega) (by omega) ha k
theorem gtI (k : Q (.bool (decide (b < a))) (sh s h tk)) : wpAny (MM w) A (compareOp .Gt (.int a t) (.int b u)) Q E (sh s h tk) := PyProof.Rows.gt_int k
theorem eqI (k : Q (.bool (a == b)) (sh s h tk)) : wpAny (MM w) A (compareOp .Eq (.int a t) (.int b u)) Q E (sh s h tk) := PyProof.Rows.eq_int k
theorem absI (k : ∀ u tk', Q (.int (if a < 0 then -a else a) u) (sh s h tk')) : wpAny (MM w) A (call (.builtin "abs") [.int a t]) Q E (sh s h tk) := call_abs_int k
end
section
variable {w : World} {A : Around} {E : Value → Shared → Prop} {s : Shared} {h₀ h : Heap} {L r : Addr} {m : Str → Option Value} {N : List (Addr × Obj)} {tk : Nat} {o : Obj} {its : Array Value}
theorem appMeth {pl : Sem Bool} {Q : Value × List Value → Shared → Prop} (ho : h.get? r = some o) (hl : LaO o its) (k : Q (.builtin "list.append", [.ref r]) (sh s h tk)) : wpAny (MM w) A (getMethod (.ref r) "append" pl) Q E (sh s h tk) :=
  Calls.getMethod_list_append ho hl.1 hl.2.1 k
theorem appS {x : Value} {Q : Value → Shared → Prop} (s : Shared) (S : St w h₀ L m ((r, o) :: N) h) (hn : ∀ p ∈ N, p.1 ≠ r) (hl : LaO o its) (hz : its.size ≤ 1000) (k : ∀ h' o', St w h₀ L m ((r, o') :: N) h' → LaO o' (its.push x) → Q .none (sh s h' tk)) :
    wpAny (MM w) A (call (.builtin "list.append") [.ref r, x]) Q E (sh s h tk) :=
  list_append_plainL ⟨o, hl.2.2.choose, S.at (List.Mem.head _), hl.1, hl.2.1, hl.2.2.choose_spec⟩ (fun h' hp hs => by
    obtain ⟨o', n, e, c, d, dt⟩ := hp
    exact k h' o' (S.change hs e hn hl.noCode) ⟨c, d, n, dt⟩) (by rw [sizeLine_eq]; omega)
theorem St.swap {a b : Addr × Obj} (S : St w h₀ L m (a :: b :: N) h) : St w h₀ L m (b :: a :: N) h :=
  ⟨S.ns, S.kp, S.g0, fun p hp => S.nw p (by
    rcases List.mem_cons.mp hp with rfl | hp
    · exact List.Mem.tail _ (List.Mem.head _)
    · rcases List.mem_cons.mp hp with rfl | hp
      · exact List.Mem.head _
      · exact List.Mem.tail _ (List.Mem.tail _ hp)), S.hi⟩
theorem maxII {a b : Int} {t u : Tok} {Q : Value → Shared → Prop} (hh : A.handled = none) (k : ∀ h' (t' : Tok) tk', Kp h h' → Q (.int (if b > a then b else a) t') (sh s h' tk')) : wpAny (MM w) A (call (.builtin "max") [.int a t, .int b u]) Q E (sh s h tk) := by
  refine max_two_ints (s := sh s h tk) hh fun h' tk' hk => ?_
  by_cases z : b > a
  · rw [if_pos z]
    have := k h' u tk' (Kp.of hk)
    rw [if_pos z] at this
    exact this
  · rw [if_neg z]
    have := k h' t tk' (Kp.of hk)
    rw [if_neg z] at this
    exact this
end
end Mine
end
section
open PySem PySem.W PySem.W.X PyProof.Rows
set_option maxRecDepth 100000
set_option maxHeartbeats 1000000
namespace Mine
section
variable {w : World} {A : Around} {s : Shared} {Q E : Value → Shared → Prop}
theorem filled {b : Array UInt8} {t : Tok} (G : Gd w s.heap) (hroom : A.depth < recursionLimit) (hb : b.size ≤ 6)
    (h : ∀ h' tk t', Kp s.heap h' → Q (.bytes ((List.replicate (6 - b.size) (65 : UInt8)).toArray ++ b) t') { s with heap := h', toks := tk }) : wpAny (MM w) A (call (.ref 81) [.bytes b t]) Q E s := by
  refine enter G hroom (G 81 _ rfl (by decide)) rfl ⟨80, _, _, _, rfl, G 80 _ rfl (by decide), rfl, rfl⟩ rfl (BindsTo.of_eq rfl) (by decide) (locs rfl) ?_
  intro h₁ tk S
  refine wpAny_execs_cons (wpAny_Return_some (wpAny_BinOp (wpAny_BinOp ?_)))
  refine Constant_bytes (wpAny_BinOp (wpAny_Constant_int (Call_ ?_)))
  refine nameB (.builtin "len") S.gd rfl rfl rfl rfl rfl (by kernel_rfl!) (by kernel_rfl!) ?_
  refine PyProof.Rows.callWith_builtin1 (spliced_more ?_)
  refine nameL S rfl rfl rfl rfl rfl (spliced_none ?_)
  refine len_bytes (by omega) (PyProof.Rows.sub_int ?_)
  refine bytes_mul_any (by simp) (by omega) (by omega) (by simp) fun t' k => ?_
  refine nameL S rfl rfl rfl rfl rfl ?_
  refine KBy.add_bytes ?_ fun t'' k' => ?_
  · simp; omega
  · have e : ((List.replicate ((6 : Int) - (b.size : Int)).toNat [(65 : UInt8)]).flatten).toArray = (List.replicate (6 - b.size) (65 : UInt8)).toArray := by
      have : ((6 : Int) - (b.size : Int)).toNat = 6 - b.size := by omega
      rw [this]
      simp
    rw [e]
    exact h _ _ _ S.kp
end
end Mine
end
section
open PySem PySem.W PySem.W.X PyProof.Rows
set_option maxRecDepth 100000
set_option maxHeartbeats 1000000
namespace Mine
/-- a number's word -/
noncomputable def apw (n : Nat) : List UInt8 := if h : n = 0 then [] else apw (n / 16) ++ [(65 + n % 16).toUInt8]
termination_by n
decreasing_by omega
theorem apw_zero : apw 0 = [] := by unfold apw; simp
theorem apw_pos {n : Nat} (h : n ≠ 0) : apw n = apw (n / 16) ++ [(65 + n % 16).toUInt8] := by rw [apw]; simp [h]
theorem apw_len : ∀ (k n : Nat), n < 16 ^ k → (apw n).length ≤ k
  | 0, n, h => by
    have : n = 0 := by simpa using h
    subst this; rw [apw_zero]; simp
  | k + 1, n, h => by
    by_cases z : n = 0
    · subst z; rw [apw_zero]; simp
    · rw [apw_pos z]
      have := apw_len k (n / 16) (by rw [Nat.pow_succ] at h; omega)
      simp; omega
noncomputable abbrev apB : List UInt8 := [65, 66, 67, 68, 69, 70, 71, 72, 73, 74, 75, 76, 77, 78, 79, 80]
theorem ap_pick {k : Nat} (h : k < 16) : KBy.picked apB.toArray (some (k : Int)) (some ((k : Int) + 1)) = [(65 + k).toUInt8].toArray ∧ KBy.whole apB.toArray (some (k : Int)) (some ((k : Int) + 1)) = false := by
  have : ∀ k : Fin 16, KBy.picked apB.toArray (some ((k : Nat) : Int)) (some (((k : Nat) : Int) + 1)) = [(65 + (k : Nat)).toUInt8].toArray ∧ KBy.whole apB.toArray (some ((k : Nat) : Int)) (some (((k : Nat) : Int) + 1)) = false := by decide +kernel
  exact this ⟨k, h⟩
section
variable {w : World} {A : Around} {s : Shared} {Q E : Value → Shared → Prop}
noncomputable def apWh (w : World) : List Stmt := whBo (stN 3 (bodyOf (mk.zo_75 w.params)))
theorem apTurn {F : Flow → Shared → Prop} {E : Value → Shared → Prop} {h₀ h : Heap} {L : Addr} {m : Str → Option Value} {N : List (Addr × Obj)} {k tk t1 t2 t3 : Nat} {v : List UInt8} (S : St w h₀ L m N h) (hh : A.handled = none) (hk : k < 16777216) (hl : v.length ≤ 6)
    (e1 : m (⟨⟨[110, 117, 109]⟩⟩ : Str) = some (.int (k : Int) t1)) (e2 : m (⟨⟨[118, 97, 108]⟩⟩ : Str) = some (.bytes v.toArray t2)) (e3 : m (⟨⟨[65, 80]⟩⟩ : Str) = some (.bytes apB.toArray t3))
    (kk : ∀ h' tk' m' t1' t2', St w h₀ L m' N h' → m' (⟨⟨[110, 117, 109]⟩⟩ : Str) = some (.int ((k / 16 : Nat) : Int) t1') → m' (⟨⟨[118, 97, 108]⟩⟩ : Str) = some (.bytes ([(65 + k % 16).toUInt8] ++ v).toArray t2') → m' (⟨⟨[65, 80]⟩⟩ : Str) = some (.bytes apB.toArray t3) → F .next (sh s h' tk')) :
    wpAny (MM w) A (execs (apWh w) (callEnv (fdAt (mk.zo_75 w.params)) L 74)) F E (sh s h tk) := by
  refine wpAny_execs_cons (Assign_Tuple (Call_ ?_))
  refine nameB (.builtin "divmod") S.gd rfl rfl rfl rfl rfl (by kernel_rfl!) (by kernel_rfl!) ?_
  refine PyProof.Rows.callWith_builtin1 (spliced_more ?_)
  refine nameL S rfl rfl rfl e1 rfl (spliced_more (wpAny_Constant_int (spliced_none ?_)))
  have f1 : (k : Int).fmod 16 = ((k % 16 : Nat) : Int) := by rw [Int.fmod_eq_emod_of_nonneg _ (by decide)]; rfl
  have f2 : (k : Int).fdiv 16 = ((k / 16 : Nat) : Int) := by rw [Int.fdiv_eq_ediv_of_nonneg _ (by decide)]; rfl
  refine divmod_int (by decide) ?_ (Or.inl (PyProof.noPylong_small (by omega)))
  rw [f1, f2]
  refine assign_Tuple_tuple (items := #[.int ((k / 16 : Nat) : Int) (tk + 1), .int ((k % 16 : Nat) : Int) (tk + 1 + 1)]) hh ⟨_, (S.push).at (List.Mem.head _), rfl, _, rfl⟩ rfl rfl fun h₅ he => ?_
  have S2 := (S.keep (Kp.push _ _)).keep (Kp.ext he)
  refine assignInOrder_cons (assign_Name (storeL s S2 rfl rfl rfl fun h₆ tk6 S3 => ?_))
  refine assignInOrder_cons (assign_Name (storeL s S3 rfl rfl rfl fun h₇ tk7 S4 => assignInOrder_nil ?_))
  refine wpAny_execs_cons (wpAny_Assign_Name (wpAny_BinOp (Subscript_ ?_)))
  refine nameL S4 rfl rfl rfl e3 rfl ?_
  refine wpAny_Slice (evalPart_some_step ?_)
  refine nameL S4 rfl rfl rfl rfl rfl (evalPart_some_step (wpAny_BinOp ?_))
  refine nameL S4 rfl rfl rfl rfl rfl (wpAny_Constant_int (PyProof.Rows.add_int (evalPart_none_step ?_)))
  have pk := ap_pick (k := k % 16) (by omega)
  refine bslice s S4 (IsPart.int _ _) (IsPart.int _ _) pk.2 (by rw [pk.1]; exact Nat.le_of_ble_eq_true rfl) (fun h9 tk' t' S5 => ?_) (by with_unfolding_all rfl) (by intro _; with_unfolding_all rfl)
  refine nameL S5 rfl rfl rfl e2 rfl ?_
  refine KBy.add_bytes ?_ fun t'' k'' => storeL s S5 rfl rfl rfl fun h₈ tk8 S6 => ?_
  · rw [pk.1]; simp; omega
  · refine wpAny_execs_nil (kk h₈ tk8 _ _ t'' S6 rfl ?_ e3)
    show some (Value.bytes (KBy.picked apB.toArray (some ((k % 16 : Nat) : Int)) (some (((k % 16 : Nat) : Int) + 1)) ++ v.toArray) t'') = _
    rw [pk.1]; simp
theorem int2ap {n : Nat} {t : Tok} (G : Gd w s.heap) (hroom : A.depth < recursionLimit) (hh : A.handled = none) (hn : n < 16777216)
    (h : ∀ h' tk t', Kp s.heap h' → Q (.bytes (apw n).toArray t') { s with heap := h', toks := tk }) : wpAny (MM w) A (call (.ref 74) [.int n t]) Q E s := by
  refine enter G hroom (G 74 _ rfl (by decide)) rfl ⟨73, _, _, _, rfl, G 73 _ rfl (by decide), rfl, rfl⟩ rfl (BindsTo.of_eq rfl) (by decide) (locs rfl) ?_
  intro h₁ tk S
  refine wpAny_execs_cons (wpAny_Assign_Name (Constant_bytes (storeL s S rfl rfl rfl fun h₂ tk S => ?_)))
  refine wpAny_execs_cons (wpAny_Assign_Name (Constant_bytes (storeL s S rfl rfl rfl fun h₃ tk S => ?_)))
  refine wpAny_execs_cons (wpAny_Assign_Name (Call_ ?_))
  refine nameB (.type "int") S.gd rfl rfl rfl rfl rfl (by kernel_rfl!) (by kernel_rfl!) ?_
  refine callWith_type1 (spliced_more (Call_ ?_))
  refine nameB (.builtin "abs") S.gd rfl rfl rfl rfl rfl (by kernel_rfl!) (by kernel_rfl!) ?_
  refine PyProof.Rows.callWith_builtin1 (spliced_more ?_)
  refine nameL S rfl rfl rfl rfl rfl (spliced_none ?_)
  refine call_abs_int fun u tk => spliced_none (call_int_int (storeL s S rfl rfl rfl fun h₄ tk S => ?_))
  refine wpAny_execs_cons (wpAny_While (codeAny_whileLoop (fun k s' => ∃ (v : List UInt8) (m : Str → Option Value) (h' : Heap) (tk t1 t2 t3 : Nat), s' = sh s h' tk ∧ St w s.heap s.heap.objs.size m [] h' ∧
    m (⟨⟨[110, 117, 109]⟩⟩ : Str) = some (.int (k : Int) t1) ∧ m (⟨⟨[118, 97, 108]⟩⟩ : Str) = some (.bytes v.toArray t2) ∧ m (⟨⟨[65, 80]⟩⟩ : Str) = some (.bytes apB.toArray t3) ∧ apw k ++ v = apw n ∧ k < 16777216 ∧ v.length ≤ 6) ?_ n ?_))
  · rintro k s' ⟨v, m, h', tk, t1, t2, t3, rfl, S, e1, e2, e3, hv, hk, hl⟩
    refine isTrue_plain (nameL S rfl rfl rfl e1 rfl (truthy_int ?_))
    by_cases z : k = 0
    · subst z
      rw [if_neg (by simp)]
      refine wpAny_execs_nil ?_
      refine wpAny_execs_cons (wpAny_Return_some (nameL S rfl rfl rfl e2 rfl ?_))
      rw [apw_zero, List.nil_append] at hv
      subst hv
      exact h _ _ _ S.kp
    · rw [if_pos (by simpa using z)]
      refine apTurn (s := s) S hh hk hl e1 e2 e3 fun h₈ tk8 m' t1' t2' S6 f1 f2 f3 => ⟨k / 16, by omega, [(65 + k % 16).toUInt8] ++ v, m', h₈, tk8, t1', t2', t3, rfl, S6, f1, f2, f3, ?_, by omega, ?_⟩
      · rw [← hv, apw_pos z]; simp
      · have h1 := apw_len 6 n (by simpa using hn)
        rw [← hv, apw_pos z] at h1
        simp at h1 ⊢; omega
  · refine ⟨[], _, h₄, _, u, _, _, rfl, S, ?_, rfl, rfl, by simp, hn, by simp⟩
    show some (Value.int (if (n : Int) < 0 then -(n : Int) else n) u) = _
    rw [if_neg (by omega)]
end
end Mine
end
section
open PySem PySem.W PySem.W.X PyProof.Rows
set_option maxRecDepth 100000
set_option maxHeartbeats 1000000
namespace Mine
/-- the k figures of n in base b, the greatest first -/
noncomputable def dg (b : Nat) : Nat → Nat → List Nat
  | 0, _ => []
  | k + 1, n => dg b k (n / b) ++ [n % b]
theorem dg_len (b : Nat) : ∀ k n, (dg b k n).length = k
  | 0, _ => rfl
  | k + 1, n => by simp [dg, dg_len b k]
theorem dg_lt {b : Nat} (hb : 0 < b) : ∀ k n, ∀ x ∈ dg b k n, x < b
  | 0, _ => fun x hx => by simp [dg] at hx
  | k + 1, n => fun x hx => by
    simp only [dg, List.mem_append, List.mem_singleton] at hx
    rcases hx with hx | rfl
    · exact dg_lt hb k _ x hx
    · exact Nat.mod_lt _ hb
theorem fill_dg : ∀ (k n : Nat), n < 16 ^ k → List.replicate (k - (apw n).length) (65 : UInt8) ++ apw n = (dg 16 k n).map fun i => (65 + i).toUInt8
  | 0, n, h => by
    have : n = 0 := by simpa using h
    subst this; rw [apw_zero]; rfl
  | k + 1, n, h => by
    have ih := fill_dg k (n / 16) (by rw [Nat.pow_succ] at h; omega)
    rw [dg, List.map_append, ← ih]
    by_cases z : n = 0
    · subst z
      rw [apw_zero]
      simp [List.replicate_succ']
    · rw [apw_pos z]
      have := apw_len k (n / 16) (by rw [Nat.pow_succ] at h; omega)
      simp
/-- law's second lambda -/
noncomputable def lam2 (w : World) : Expr := asV (stN 6 (bodyOf (mk.zo_125 w.params)))
section
variable {w : World} {A : Around} {s : Shared} {Q E : Value → Shared → Prop}
theorem lamWords {q : Addr} {n : Nat} {t : Tok} (G : Gd w s.heap) (Lm : Lam s.heap q (lam2 w) []) (hroom : A.depth + 1 < recursionLimit) (hh : A.handled = none) (hn : n < 16777216)
    (h : ∀ h' tk t', Kp s.heap h' → Q (.bytes ((dg 16 6 n).map fun i => (65 + i).toUInt8).toArray t') (sh s h' tk)) : wpAny (MM w) A (call (.ref q) [.int n t]) Q E s := by
  obtain ⟨_, nm, qual, pm, c', ctv, _, ho, hc⟩ := Lm
  refine enterE G (by omega) ho rfl hc rfl (BindsTo.of_eq rfl) (noCells (by kernel_rfl!)) (locs rfl) rfl rfl rfl ?_
  intro h₁ tk S
  refine Call_ ?_
  refine nameG S.gd rfl rfl rfl rfl (v := .ref 81) (by kernel_rfl!) ?_
  refine callWith_def (o := mk.zo_82 w.params) rfl (spliced_more (Call_ ?_))
  refine nameG S.gd rfl rfl rfl rfl (v := .ref 74) (by kernel_rfl!) ?_
  refine callWith_def (o := mk.zo_75 w.params) rfl (spliced_more ?_)
  refine nameL S rfl rfl rfl rfl rfl (spliced_none ⟨S.gd 74 _ rfl (by decide), ?_⟩)
  refine int2ap (s := sh s h₁ tk) S.gd hroom hh hn fun h₂ tk₂ t₂ k => ?_
  have S2 := S.keep k
  have hl := apw_len 6 n (by simpa using hn)
  refine spliced_none ⟨S2.gd 81 _ rfl (by decide), filled (s := sh s h₂ tk₂) S2.gd hroom (by simpa using hl) fun h₃ tk₃ t₃ k₃ => ?_⟩
  have e : (List.replicate (6 - (apw n).toArray.size) (65 : UInt8)).toArray ++ (apw n).toArray = ((dg 16 6 n).map fun i => (65 + i).toUInt8).toArray := by
    rw [← fill_dg 6 n (by simpa using hn)]; simp
  rw [e]
  exact h _ _ _ (S2.kp.trans k₃)
end
end Mine
end
section
open PySem PySem.W PySem.W.X PyProof.Rows
set_option maxRecDepth 100000
set_option maxHeartbeats 1000000
namespace Mine
/-- bytes' iterator as an object -/
noncomputable def BiO (o : Obj) (b : Array UInt8) (t : Tok) (i : Nat) : Prop := o.cls = .type "bytes_iterator" ∧ o.data = .fields #[.bytes b t, .int i 0]
theorem BiO.noCode {o : Obj} {b : Array UInt8} {t : Tok} {i : Nat} (x : BiO o b t i) : noCode o := fun vs q t e1 e2 => by rw [x.2] at e1; cases e1; simp at e2
section
variable {w : World} {A : Around} {E : Value → Shared → Prop} {s : Shared} {h₀ h : Heap} {L it : Addr} {m : Str → Option Value} {N : List (Addr × Obj)} {tk i : Nat} {o : Obj} {b : Array UInt8} {t : Tok}
theorem iterB {Q : Value → Shared → Prop} (s : Shared) (S : St w h₀ L m N h) (k : ∀ it h', St w h₀ L m ((it, { cls := .type "bytes_iterator", data := .fields #[.bytes b t, .int 0 0] }) :: N) h' → (∀ p ∈ N, p.1 ≠ it) → Q (.ref it) (sh s h' tk)) :
    wpAny (MM w) A (pyIter (.bytes b t)) Q E (sh s h tk) :=
  KBw.pyIter_bytes (k _ _ S.push fun p hp => Nat.ne_of_lt (Heap.lt_size (S.nw p hp).1))
theorem nextB {c : UInt8} {Q : Option Value → Shared → Prop} (s : Shared) (S : St w h₀ L m ((it, o) :: N) h) (hn : ∀ p ∈ N, p.1 ≠ it) (ho : BiO o b t i) (hx : b[i]? = some c)
    (k : ∀ h' o' t' tk', St w h₀ L m ((it, o') :: N) h' → BiO o' b t (i + 1) → Q (some (.int (c.toNat : Int) t')) (sh s h' tk')) : wpAny (MM w) A (pyNext (.ref it)) Q E (sh s h tk) :=
  KBw.next_item (s := sh s h tk) ⟨o, S.at (List.Mem.head _), ho⟩ hx fun h' hit hs => by
    obtain ⟨o', h1, h2⟩ := hit
    exact k h' o' _ _ (S.change hs h1 hn ho.noCode) h2
theorem endB {Q : Option Value → Shared → Prop} (s : Shared) (S : St w h₀ L m ((it, o) :: N) h) (hn : ∀ p ∈ N, p.1 ≠ it) (ho : BiO o b t i) (hx : b[i]? = none) (hh : A.handled = none)
    (k : ∀ h', St w h₀ L m N h' → Q none (sh s h' tk)) : wpAny (MM w) A (pyNext (.ref it)) Q E (sh s h tk) :=
  KBw.next_end (s := sh s h tk) hh ⟨o, S.at (List.Mem.head _), ho⟩ hx fun h' he => k h' (by
    have z := S.nw _ (List.Mem.head _)
    have he' : ∀ b o, b ≠ it → h.get? b = some o → h'.get? b = some o := fun b o n e => he b o n e
    refine ⟨?_, S.kp.same z.2.2.2 z.1 ho.noCode he', S.g0, fun p hp => ?_, S.hi⟩
    · obtain ⟨o, es, ep, ho, r⟩ := S.ns
      exact ⟨o, es, ep, he L o (Ne.symm z.2.1) ho, r⟩
    · have y := S.nw p (List.Mem.tail _ hp)
      exact ⟨he _ _ (hn p hp) y.1, y.2⟩)
end
section
variable {w : World} {A : Around} {s : Shared} {Q E : Value → Shared → Prop}
theorem bufferC {b : Array UInt8} {t : Tok} (G : Gd w s.heap) (hroom : A.depth < recursionLimit) (h : ∀ h' tk, Kp s.heap h' → Q (.bytes b t) (sh s h' tk)) : wpAny (MM w) A (call (.ref 28) [.bytes b t]) Q E s := by
  refine enter G hroom (G 28 _ rfl (by decide)) rfl ⟨27, _, _, _, rfl, G 27 _ rfl (by decide), rfl, rfl⟩ rfl (BindsTo.of_eq rfl) (by decide) (locs rfl) ?_
  intro h₁ tk S
  refine wpAny_execs_cons (wpAny_Assign_Name (Call_ ?_))
  refine nameB (.type "type") S.gd rfl rfl rfl rfl rfl (by kernel_rfl!) (by kernel_rfl!) ?_
  refine PySem.Pv.callWith_type1 (spliced_more (nameL S rfl rfl rfl rfl rfl (spliced_none ?_)))
  refine call_type_of (typeIs_bytes _ _ _) (by decide) ?_
  refine storeL s S rfl rfl rfl fun h₂ tk₂ S2 => ?_
  refine wpAny_execs_cons (wpAny_If (wpAny_isTrue_Compare1 ?_))
  refine nameL (s := sh s h₂ tk₂) S2 rfl rfl rfl rfl rfl ?_
  refine nameB (s := sh s h₂ tk₂) (.type "bytes") S2.gd rfl rfl rfl rfl rfl (by kernel_rfl!) (by kernel_rfl!) ?_
  refine wpAny_is_self rfl (wpAny_truthy_bool ?_)
  rw [if_pos rfl]
  exact wpAny_execs_cons (wpAny_Return_some (nameL (s := sh s h₂ tk₂) S2 rfl rfl rfl rfl rfl (h _ _ S2.kp)))
theorem truthC (G : Gd w s.heap) (hroom : A.depth < recursionLimit) (h : ∀ h' tk, Kp s.heap h' → Q (.bool false) (sh s h' tk)) : wpAny (MM w) A (call (.ref 35) [.bool false]) Q E s := by
  refine enter G hroom (G 35 _ rfl (by decide)) rfl ⟨34, _, _, _, rfl, G 34 _ rfl (by decide), rfl, rfl⟩ rfl (BindsTo.of_eq rfl) (by decide) (locs rfl) ?_
  intro h₁ tk S
  refine wpAny_execs_cons (wpAny_Assign_Name (Call_ ?_))
  refine nameB (.type "type") S.gd rfl rfl rfl rfl rfl (by kernel_rfl!) (by kernel_rfl!) ?_
  refine PySem.Pv.callWith_type1 (spliced_more (nameL S rfl rfl rfl rfl rfl (spliced_none ?_)))
  refine call_type_of (PySem.typeIs_bool _ _) (by decide) ?_
  refine storeL s S rfl rfl rfl fun h₂ tk₂ S2 => ?_
  refine wpAny_execs_cons (wpAny_If (isTrue_or (wpAny_isTrue_Compare1 ?_)))
  refine nameL (s := sh s h₂ tk₂) S2 rfl rfl rfl rfl rfl (wpAny_Constant_none ?_)
  refine is_bool_none (wpAny_truthy_bool ?_)
  rw [if_neg Bool.false_ne_true]
  refine isTrue_or (wpAny_isTrue_Compare1 ?_)
  refine nameL (s := sh s h₂ tk₂) S2 rfl rfl rfl rfl rfl ?_
  refine nameB (s := sh s h₂ tk₂) (.type "bool") S2.gd rfl rfl rfl rfl rfl (by kernel_rfl!) (by kernel_rfl!) ?_
  refine wpAny_is_self rfl (wpAny_truthy_bool ?_)
  rw [if_pos rfl, if_pos rfl]
  refine wpAny_execs_cons (wpAny_Return_some (wpAny_IfExp (isTrue_plain ?_)))
  refine nameL (s := sh s h₂ tk₂) S2 rfl rfl rfl rfl rfl (wpAny_truthy_bool ?_)
  rw [if_neg Bool.false_ne_true]
  exact wpAny_Constant_bool (h _ _ S2.kp)
end
end Mine
end
section
open PySem PySem.W PySem.W.X PyProof.Rows
set_option maxRecDepth 100000
set_option maxHeartbeats 1000000
namespace Mine
noncomputable abbrev oct3 (n : Nat) : Array UInt8 := #[(n / 65536).toUInt8, (n / 256 % 256).toUInt8, (n % 256).toUInt8]
theorem oct_ints {n : Nat} (hn : n < 16777216) : (∀ x ∈ [(n : Int).fdiv 65536, ((n : Int).fdiv 256).fmod 256, (n : Int).fmod 256], 0 ≤ x ∧ x < 256) ∧ byteArr [(n : Int).fdiv 65536, ((n : Int).fdiv 256).fmod 256, (n : Int).fmod 256] = oct3 n := by
  have e1 : (n : Int).fdiv 65536 = ((n / 65536 : Nat) : Int) := by rw [Int.fdiv_eq_ediv_of_nonneg _ (by decide)]; rfl
  have e2 : ((n : Int).fdiv 256).fmod 256 = ((n / 256 % 256 : Nat) : Int) := by rw [Int.fdiv_eq_ediv_of_nonneg _ (by decide), Int.fmod_eq_emod_of_nonneg _ (by decide)]; rfl
  have e3 : (n : Int).fmod 256 = ((n % 256 : Nat) : Int) := by rw [Int.fmod_eq_emod_of_nonneg _ (by decide)]; rfl
  rw [e1, e2, e3]
  constructor
  · intro x hx
    simp only [List.mem_cons, List.not_mem_nil, or_false] at hx
    rcases hx with rfl | rfl | rfl
    · exact ⟨Int.natCast_nonneg _, Int.ofNat_lt.mpr (Nat.div_lt_of_lt_mul hn)⟩
    · exact ⟨Int.natCast_nonneg _, Int.ofNat_lt.mpr (Nat.mod_lt _ (by decide))⟩
    · exact ⟨Int.natCast_nonneg _, Int.ofNat_lt.mpr (Nat.mod_lt _ (by decide))⟩
  · simp only [byteArr, List.map_cons, List.map_nil, Int.toNat_natCast]
section
variable {w : World} {A : Around} {s : Shared} {Q E : Value → Shared → Prop}
theorem octets {n : Nat} {t : Tok} (G : Gd w s.heap) (hroom : A.depth < recursionLimit) (hh : A.handled = none) (hn : n < 16777216)
    (h : ∀ h' tk t', Kp s.heap h' → Q (.bytes (oct3 n) t') (sh s h' tk)) : wpAny (MM w) A (call (.ref 88) [.int n t]) Q E s := by
  refine enter G hroom (G 88 _ rfl (by decide)) rfl ⟨87, _, _, _, rfl, G 87 _ rfl (by decide), rfl, rfl⟩ rfl (BindsTo.of_eq rfl) (by decide) (locs rfl) ?_
  intro h₁ tk S
  refine wpAny_execs_cons (wpAny_Return_some (Call_ ?_))
  refine nameB (.type "bytes") S.gd rfl rfl rfl rfl rfl (by kernel_rfl!) (by kernel_rfl!) ?_
  refine PySem.Pv.callWith_type1 (spliced_more (List_ (spliced_more (wpAny_BinOp ?_))))
  refine nameL S rfl rfl rfl rfl rfl (wpAny_Constant_int (floordiv_int (by decide) (spliced_more (wpAny_BinOp (wpAny_BinOp ?_))) (Or.inl (PyProof.noPylong_small (by decide)))))
  refine nameL S rfl rfl rfl rfl rfl (wpAny_Constant_int (floordiv_int (by decide) (wpAny_Constant_int (mod_int' (by decide) (spliced_more (wpAny_BinOp ?_)))) (Or.inl (PyProof.noPylong_small (by decide)))))
  refine nameL S rfl rfl rfl rfl rfl (wpAny_Constant_int (mod_int' (by decide) (spliced_none (wpAny_newList (spliced_none ?_)))))
  refine call_bytes_ints (ns := [(n : Int).fdiv 65536, ((n : Int).fdiv 256).fmod 256, (n : Int).fmod 256]) ⟨_, (S.push).at (List.Mem.head _), rfl, _, rfl⟩ (.cons _ _ (.cons _ _ (.cons _ _ .nil))) (oct_ints hn).1 (Nat.le_of_ble_eq_true rfl) hh fun h₂ t' k hk => ?_
  rw [(oct_ints hn).2]
  exact h _ _ _ ((S.kp.trans (Kp.push _ _)).trans (Kp.of hk))
end
end Mine
end
section
open PySem PySem.W PySem.W.X PyProof.Rows
set_option maxRecDepth 100000
set_option maxHeartbeats 1000000
namespace Mine
/-- the first unlike figures' difference -/
noncomputable def gapf : List Nat → List Nat → Int
  | a :: as, b :: bs => if a = b then gapf as bs else (a : Int) - b
  | _, _ => 0
/-- figures as signs -/
noncomputable abbrev sg (al : List UInt8) (ds : List Nat) : List UInt8 := ds.map fun i => al.getD i 0
theorem gapf_drop : ∀ {ds es : List Nat} {i : Nat}, (∀ j, j < i → ds[j]? = es[j]?) → gapf ds es = gapf (ds.drop i) (es.drop i)
  | _, _, 0, _ => rfl
  | [], es, i + 1, h => by
    have := h 0 (by omega)
    cases es with
    | nil => rfl
    | cons => simp at this
  | a :: as, [], i + 1, h => by have := h 0 (by omega); simp at this
  | a :: as, b :: bs, i + 1, h => by
    have h0 := h 0 (by omega)
    simp at h0
    subst h0
    rw [gapf, if_pos rfl]
    exact gapf_drop fun j hj => by simpa using h (j + 1) (by omega)
theorem range_small {k : Nat} (h : k ≤ 6) : Builtin.Range.small 0 (k : Int) 1 = true ∧ Builtin.Range.rangeSize 0 (k : Int) 1 = k := by
  have : ∀ k : Fin 7, Builtin.Range.small 0 ((k : Nat) : Int) 1 = true ∧ Builtin.Range.rangeSize 0 ((k : Nat) : Int) 1 = ((k : Nat) : Int) := by decide +kernel
  exact this ⟨k, by omega⟩
theorem sg_at {al : List UInt8} (hal : al.length = 64) {ds : List Nat} {i : Nat} (hi : i < ds.length) (h : ∀ x ∈ ds, x < 64) : ∃ x c, ds[i]? = some x ∧ x < 64 ∧ al[x]? = some c ∧ (sg al ds).getD i 0 = c := by
  have hx := h ds[i] (List.getElem_mem hi)
  have e := List.getElem?_eq_getElem (l := al) (i := ds[i]) (by omega)
  refine ⟨ds[i], al[ds[i]], List.getElem?_eq_getElem hi, hx, e, ?_⟩
  simp [List.getD, hi, e]
theorem al_inj {al : List UInt8} (hd : al.Nodup) {x y : Nat} {c e : UInt8} (h1 : al[x]? = some c) (h2 : al[y]? = some e) : ((c.toNat : Int) != (e.toNat : Int)) = decide (x ≠ y) := by
  obtain ⟨l1, e1⟩ := List.getElem?_eq_some_iff.mp h1
  obtain ⟨l2, e2⟩ := List.getElem?_eq_some_iff.mp h2
  by_cases q : x = y
  · subst q
    rw [e1] at e2; subst e2
    simp
  · have : c ≠ e := by
      intro z
      exact q ((List.getElem?_inj l1 hd).mp (h1.trans (by rw [z, h2])))
    have z : (c.toNat : Int) ≠ e.toNat := fun z => this (UInt8.toNat_inj.mp (by omega))
    simp [q, z]
noncomputable abbrev gPlaces : Str := ⟨⟨[112, 108, 97, 99, 101, 115]⟩⟩
noncomputable abbrev gOne : Str := ⟨⟨[111, 110, 101]⟩⟩
noncomputable abbrev gOther : Str := ⟨⟨[111, 116, 104, 101, 114]⟩⟩
noncomputable abbrev gK : Str := ⟨⟨[107]⟩⟩
/-- the loop's body in _law_gap, its frame -/
noncomputable def gapB (w : World) : List Stmt := forBo (stN 0 (bodyOf (mk.zo_96 w.params)))
noncomputable abbrev gapEnv (w : World) (L : Addr) : Env := callEnv (fdAt (mk.zo_96 w.params)) L 95
section
variable {w : World} {A : Around} {s : Shared} {F : Flow → Shared → Prop} {E : Value → Shared → Prop} {h₀ h : Heap} {L d : Addr} {m : Str → Option Value} {N : List (Addr × Obj)} {tk i x y : Nat} {al : List UInt8} {o₁ o₂ : List UInt8} {t u tk' : Tok} {c c' : UInt8}
theorem gapTurn (S : St w h₀ L m N h) (P : Pl w h₀ d al) (l1 : o₁.length ≤ 1000) (l2 : o₂.length ≤ 1000) (i1 : i < o₁.length) (i2 : i < o₂.length) (g1 : o₁.getD i 0 = c) (g2 : o₂.getD i 0 = c') (q3 : al[x]? = some c) (r3 : al[y]? = some c')
    (e0 : m gK = some (.int (i : Nat) tk')) (e1 : m gPlaces = some (.ref d)) (e2 : m gOne = some (.bytes o₁.toArray t)) (e3 : m gOther = some (.bytes o₂.toArray u))
    (k1 : x = y → ∀ tk, F .next (sh s h tk)) (k2 : x ≠ y → ∀ t' tk, F (.ret (.int ((x : Int) - (y : Int)) t')) (sh s h tk)) : wpAny (MM w) A (execs (gapB w) (gapEnv w L)) F E (sh s h tk) := by
  have j1 : (i : Int) < (o₁.length : Int) := Int.ofNat_lt.mpr i1
  have j2 : (i : Int) < (o₂.length : Int) := Int.ofNat_lt.mpr i2
  have z1 : o₁.length ≤ 1099511627776 := Nat.le_trans l1 (by decide)
  have z2 : o₂.length ≤ 1099511627776 := Nat.le_trans l2 (by decide)
  have j0 : (0 : Int) ≤ (i : Int) := Int.natCast_nonneg _
  refine wpAny_execs_cons (wpAny_If (wpAny_isTrue_Compare1 (Subscript_ ?_)))
  refine nameL S rfl rfl rfl e2 rfl (nameL S rfl rfl rfl e0 rfl (itB z1 j0 j1 (by with_unfolding_all rfl) (by intro _; with_unfolding_all rfl) (Subscript_ ?_)))
  refine nameL S rfl rfl rfl e3 rfl (nameL S rfl rfl rfl e0 rfl (itB z2 j0 j2 (by with_unfolding_all rfl) (by intro _; with_unfolding_all rfl) (neI (wpAny_truthy_bool ?_))))
  rw [Int.toNat_natCast, g1, g2, al_inj P.2.1 q3 r3]
  by_cases q : x = y
  · rw [decide_eq_false (fun z => z q), if_neg Bool.false_ne_true]
    exact wpAny_execs_nil (wpAny_execs_nil (k1 q _))
  · rw [decide_eq_true q, if_pos rfl]
    refine wpAny_execs_cons (wpAny_Return_some (wpAny_BinOp (MethodCall_ ?_)))
    refine nameL S rfl rfl rfl e1 rfl (plMeth (P.kp S.kp) ?_)
    refine PyProof.Rows.callWith_method1 (spliced_more (Subscript_ ?_))
    refine nameL S rfl rfl rfl e2 rfl (nameL S rfl rfl rfl e0 rfl (itB z1 j0 j1 (by with_unfolding_all rfl) (by intro _; with_unfolding_all rfl) (spliced_more (wpAny_UnaryOp (cI (negI (spliced_none ?_)))))))
    rw [Int.toNat_natCast, g1]
    refine plGet (P.kp S.kp) q3 fun t5 => ?_
    refine MethodCall_ (nameL S rfl rfl rfl e1 rfl (plMeth (P.kp S.kp) ?_))
    refine PyProof.Rows.callWith_method1 (spliced_more (Subscript_ ?_))
    refine nameL S rfl rfl rfl e3 rfl (nameL S rfl rfl rfl e0 rfl (itB z2 j0 j2 (by with_unfolding_all rfl) (by intro _; with_unfolding_all rfl) (spliced_more (wpAny_UnaryOp (cI (negI (spliced_none ?_)))))))
    rw [Int.toNat_natCast, g2]
    exact plGet (P.kp S.kp) r3 fun t6 => subI (k2 q _ _)
end
theorem gapf_same {ds es : List Nat} {i x y : Nat} (hj : ∀ j, j < i → ds[j]? = es[j]?) (q1 : ds[i]? = some x) (r1 : es[i]? = some y) (q : x ≠ y) : gapf ds es = (x : Int) - y := by
  obtain ⟨l1, a1⟩ := List.getElem?_eq_some_iff.mp q1
  obtain ⟨l2, a2⟩ := List.getElem?_eq_some_iff.mp r1
  rw [gapf_drop hj, List.drop_eq_getElem_cons l1, List.drop_eq_getElem_cons l2, a1, a2, gapf, if_neg q]
section
variable {w : World} {A : Around} {s : Shared} {Q E : Value → Shared → Prop}
theorem gap {d : Addr} {al : List UInt8} {ds es : List Nat} {t u : Tok} (G : Gd w s.heap) (P : Pl w s.heap d al) (hroom : A.depth < recursionLimit) (hh : A.handled = none) (hn : ds.length ≤ 6) (hl : ds.length = es.length)
    (h1 : ∀ x ∈ ds, x < 64) (h2 : ∀ x ∈ es, x < 64) (h : ∀ h' tk t', Kp s.heap h' → Q (.int (gapf ds es) t') (sh s h' tk)) :
    wpAny (MM w) A (call (.ref 95) [.ref d, .bytes (sg al ds).toArray t, .bytes (sg al es).toArray u]) Q E s := by
  refine enter G hroom (G 95 _ rfl (by decide)) rfl ⟨94, _, _, _, rfl, G 94 _ rfl (by decide), rfl, rfl⟩ rfl (BindsTo.of_eq rfl) (by decide) (locs rfl) ?_
  intro h₁ tk S
  refine wpAny_execs_cons (wpAny_For (Call_ ?_))
  refine nameB (.type "range") S.gd rfl rfl rfl rfl rfl (by kernel_rfl!) (by kernel_rfl!) ?_
  refine PySem.Pv.callWith_type1 (spliced_more (Call_ ?_))
  refine nameB (.builtin "len") S.gd rfl rfl rfl rfl rfl (by kernel_rfl!) (by kernel_rfl!) ?_
  refine PyProof.Rows.callWith_builtin1 (spliced_more ?_)
  refine nameL S rfl rfl rfl rfl rfl (spliced_none (lenB (by simp; omega) (spliced_none ?_)))
  have ez : (((sg al ds).toArray.size : Nat) : Int) = ((ds.length : Nat) : Int) := by simp
  rw [ez]
  refine rangeS s S fun r h₂ tk₂ t1 t2 t3 S _ => ?_
  refine iterR s S (List.Mem.head _) (range_small hn).1 fun it h₃ S ne => ?_
  rw [(range_small hn).2] at S
  refine codeAny_forLoop (fun n s' => ∃ (i : Nat) (m : Str → Option Value) (h' : Heap) (tk : Nat), s' = sh s h' tk ∧ n + i = ds.length ∧ St w s.heap s.heap.objs.size m [(it, riO i (ds.length - i) 1)] h' ∧ (∀ j, j < i → ds[j]? = es[j]?) ∧
    m (⟨⟨[112, 108, 97, 99, 101, 115]⟩⟩ : Str) = some (.ref d) ∧ m (⟨⟨[111, 110, 101]⟩⟩ : Str) = some (.bytes (sg al ds).toArray t) ∧ m (⟨⟨[111, 116, 104, 101, 114]⟩⟩ : Str) = some (.bytes (sg al es).toArray u)) ?_ ds.length ?_
  · rintro n s' ⟨i, m, h', tk, rfl, hi, S, hj, e1, e2, e3⟩
    by_cases z : n = 0
    · refine endR s S (fun _ hp => nomatch hp) hh (by omega) fun h'' S => ?_
      refine wpAny_execs_nil ?_
      refine wpAny_execs_cons (wpAny_Return_some (cI ?_))
      have : gapf ds es = 0 := by
        rw [gapf_drop hj, List.drop_of_length_le (by omega), List.drop_of_length_le (by omega)]; rfl
      rw [this] at h
      exact h _ _ _ S.kp
    · refine nextR s S (fun _ hp => nomatch hp) (by omega) fun h'' tk'' t'' S => ?_
      refine wpAny_assign_Name (storeL s S rfl rfl rfl fun h4 tk4 S => ?_)
      have hi1 : i < ds.length := by omega
      have hi2 : i < es.length := hl ▸ hi1
      obtain ⟨x, c, q1, q2, q3, q4⟩ := sg_at P.1 (ds := ds) (i := i) hi1 h1
      obtain ⟨y, c', r1, r2, r3, r4⟩ := sg_at P.1 (ds := es) (i := i) hi2 h2
      have z1 : ((i : Int) + 1) = ((i + 1 : Nat) : Int) := rfl
      have z2 : ((ds.length : Int) - (i : Int) - 1) = (ds.length : Int) - ((i + 1 : Nat) : Int) := by rw [Int.sub_sub, z1]
      rw [z1, z2] at S
      have hs1 : (sg al ds).length = ds.length := List.length_map ..
      have hs2 : (sg al es).length = es.length := List.length_map ..
      refine gapTurn S P (by rw [hs1]; exact Nat.le_trans hn (by decide)) (by rw [hs2, ← hl]; exact Nat.le_trans hn (by decide)) (by rw [hs1]; exact hi1) (by rw [hs2]; exact hi2) q4 r4 q3 r3 rfl e1 e2 e3 (fun q tk => ⟨n - 1, by omega, i + 1, _, h4, tk, rfl, by omega, S, ?_, e1, e2, e3⟩) fun q t' tk => ?_
      · intro j hj'
        by_cases zz : j = i
        · subst zz; rw [q1, r1, q]
        · exact hj j (Nat.lt_of_le_of_ne (Nat.le_of_lt_succ hj') zz)
      · have e := gapf_same hj q1 r1 q
        rw [e] at h
        exact h _ _ _ S.kp
  · exact ⟨0, _, _, _, rfl, by omega, (S.drop (by intro p hp; cases hp with | head => exact List.Mem.head _ | tail _ q => cases q)), fun j hj => by omega, rfl, rfl, rfl⟩
end
end Mine
end
section
open PySem PySem.W PySem.W.X PyProof.Rows
set_option maxRecDepth 100000
set_option maxHeartbeats 1000000
namespace Mine
/-- the standard alphabet of b64encode -/
noncomputable def std : List UInt8 := [65, 66, 67, 68, 69, 70, 71, 72, 73, 74, 75, 76, 77, 78, 79, 80, 81, 82, 83, 84, 85, 86, 87, 88, 89, 90, 97, 98, 99, 100, 101, 102, 103, 104, 105, 106, 107, 108, 109, 110, 111, 112, 113, 114, 115, 116, 117, 118, 119, 120, 121, 122, 48, 49, 50, 51, 52, 53, 54, 55, 56, 57, 43, 47]
noncomputable abbrev sOut : Str := ⟨⟨[111, 117, 116]⟩⟩
noncomputable abbrev sLb : Str := ⟨⟨[108, 101, 102, 116, 98, 105, 116, 115]⟩⟩
noncomputable abbrev sLc : Str := ⟨⟨[108, 101, 102, 116, 99, 104, 97, 114]⟩⟩
noncomputable abbrev sNl : Str := ⟨⟨[110, 101, 119, 108, 105, 110, 101]⟩⟩
noncomputable def isStd : Option Value → Bool
  | some (.bytes b _) => b.toList == std
  | _ => false
theorem isStd_of {v : Option Value} (h : isStd v = true) : ∃ t, v = some (.bytes std.toArray t) := by
  unfold isStd at h
  split at h
  · rename_i b t
    have := beq_iff_eq.mp h
    exact ⟨t, by rw [← this, Array.toArray_toList]⟩
  · cases h
theorem b64At (w : World) : ∃ t, gN w (Str.ofString "_B64") = some (.bytes std.toArray t) := isStd_of (by kernel_rfl!)
/-- signs as ints -/
noncomputable abbrev sgI (ds : List Nat) : List Int := (sg std ds).map fun c => (c.toNat : Int)
theorem shift_in {x c : Nat} (hc : c < 256) : Builtin.bitAnd (Builtin.bitOr ((x : Int) * 2 ^ (8 : Int).toNat) (c : Int)) 65535 = (((x * 256 + c) % 65536 : Nat) : Int) := by
  have e : Builtin.bitOr ((x : Int) * 2 ^ (8 : Int).toNat) (c : Int) = ((x * 256 + c : Nat) : Int) := by
    have e1 : (x : Int) * 2 ^ (8 : Int).toNat = ((x * 256 : Nat) : Int) := by
      rw [show (8 : Int).toNat = 8 from rfl]; omega
    rw [e1, bitOr_and, bitAnd_pp (by omega) (by omega)]
    have e2 : (((x * 256 : Nat) : Int).toNat &&& ((c : Nat) : Int).toNat) = 0 := by
      rw [Int.toNat_natCast, Int.toNat_natCast]
      apply Nat.eq_of_testBit_eq
      intro i
      rw [Nat.testBit_and, Nat.zero_testBit]
      by_cases hi : i < 8
      · have : (x * 256).testBit i = false := by
          rw [show x * 256 = 2 ^ 8 * x by omega, Nat.testBit_two_pow_mul]
          simp; omega
        rw [this, Bool.false_and]
      · have : c.testBit i = false := Nat.testBit_lt_two_pow (Nat.lt_of_lt_of_le hc (Nat.pow_le_pow_right (n := 2) (by omega) (show 8 ≤ i by omega)))
        rw [this, Bool.and_false]
    rw [e2]; omega
  rw [e, bitAnd_m16]
  omega
theorem six_out {P e : Nat} (he : e ≤ 7) : Builtin.bitAnd (((P % 65536 : Nat) : Int).fdiv (2 ^ ((e : Nat) : Int).toNat)) 63 = ((P / 2 ^ e % 64 : Nat) : Int) := by
  have h1 : 2 ^ e * 2 ^ (16 - e) = 65536 := by rw [← Nat.pow_add, show e + (16 - e) = 16 by omega]
  have h2 : 64 ∣ 2 ^ (16 - e) := ⟨2 ^ (10 - e), by rw [show (64 : Nat) = 2 ^ 6 from rfl, ← Nat.pow_add, show 6 + (10 - e) = 16 - e by omega]⟩
  have h3 : P % 65536 / 2 ^ e % 64 = P / 2 ^ e % 64 := by rw [← h1, Nat.mod_mul_right_div_self, Nat.mod_mod_of_dvd _ h2]
  rw [bitAnd_m6, Int.toNat_natCast, Int.fdiv_eq_ediv_of_nonneg _ (Int.le_of_lt (Int.pow_pos (by decide)))]
  rw [← h3]
  simp only [Int.natCast_emod, Int.natCast_ediv, Int.natCast_pow]
  rfl
theorem dg_out {P j lb : Nat} (h : 6 ≤ lb) : dg 64 (j + 1) (P / 2 ^ (lb - 6)) = dg 64 j (P / 2 ^ lb) ++ [P / 2 ^ (lb - 6) % 64] := by
  show dg 64 j (P / 2 ^ (lb - 6) / 64) ++ _ = _
  rw [Nat.div_div_eq_div_mul]
  have e : 2 ^ (lb - 6) * 64 = 2 ^ lb := by
    rw [show (64 : Nat) = 2 ^ 6 from rfl, ← Nat.pow_add]
    congr 1
    omega
  rw [e]
theorem oct_at {N i : Nat} (hN : N < 16777216) (hi : i < 3) : ∃ c, (oct3 N)[i]? = some c ∧ c.toNat = N / 256 ^ (3 - (i + 1)) % 256 ∧ N / 256 ^ (3 - (i + 1)) / 256 = N / 256 ^ (3 - i) := by
  have u : ∀ x : Nat, x < 256 → (x.toUInt8).toNat = x := fun x hx => Nat.mod_eq_of_lt hx
  have d : ∀ j, N / 256 ^ j / 256 = N / 256 ^ (j + 1) := fun j => by rw [Nat.div_div_eq_div_mul, Nat.pow_succ]
  match i, hi with
  | 0, _ =>
    have h : N / 65536 < 256 := Nat.div_lt_of_lt_mul hN
    exact ⟨(N / 65536).toUInt8, rfl, (u _ h).trans (Nat.mod_eq_of_lt h).symm, d 2⟩
  | 1, _ => exact ⟨(N / 256 % 256).toUInt8, rfl, u _ (Nat.mod_lt _ (by decide)), d 1⟩
  | 2, _ => exact ⟨(N % 256).toUInt8, rfl, (u _ (Nat.mod_lt _ (by decide))).trans (by rw [show 256 ^ (3 - (2 + 1)) = 1 from rfl, Nat.div_one]), d 0⟩
theorem sgI_snoc (ds : List Nat) (x : Nat) : sgI (ds ++ [x]) = sgI ds ++ [((std.getD x 0).toNat : Int)] := by simp [sgI, sg]
theorem geI {w : World} {A : Around} {E : Value → Shared → Prop} {Q : Value → Shared → Prop} {s : Shared} {h : Heap} {tk : Nat} {a b : Int} {t u : Tok} (k : Q (.bool (decide (b ≤ a))) (sh s h tk)) : wpAny (MM w) A (compareOp .GtE (.int a t) (.int b u)) Q E (sh s h tk) := PyProof.Rows.ge_int k
/-- the inner loop's body in b2a_base64, its frame -/
noncomputable def whB (w : World) : List Stmt := whBo (stN 2 (forBo (stN 5 (bodyOf (mk.zo_44 w.params)))))
noncomputable abbrev b2aEnv (w : World) (L : Addr) : Env := callEnv (fdAt (mk.zo_44 w.params)) L 43
theorem sgI_len (ds : List Nat) : (sgI ds).length = ds.length := by simp [sgI, sg]
theorem j_le {i j k : Nat} (h : 8 * (i + 1) = 6 * j + k) (hi : i < 3) : j ≤ 4 := by omega
section
variable {w : World} {A : Around} {s : Shared} {F : Flow → Shared → Prop} {E : Value → Shared → Prop} {h₀ h : Heap} {L R : Addr} {m : Str → Option Value} {N : List (Addr × Obj)} {oR : Obj} {tk P j k : Nat} {vs : List Value} {tl tc : Tok}
theorem whTurn (S : St w h₀ L m ((R, oR) :: N) h) (hnR : ∀ p ∈ N, p.1 ≠ R) (hR : LaO oR vs.toArray) (hV : IntsAre vs (sgI (dg 64 j (P / 2 ^ k)))) (hj : j ≤ 1000) (z : 6 ≤ k) (hk : k ≤ 13) (f1 : m sLb = some (.int (k : Int) tl)) (f2 : m sLc = some (.int ((P % 65536 : Nat) : Int) tc)) (f3 : m sOut = some (.ref R)) (f4 : m sNl = some (.bool false))
    (kk : ∀ h' tk' m' o' vs' tl', St w h₀ L m' ((R, o') :: N) h' → LaO o' vs'.toArray → IntsAre vs' (sgI (dg 64 (j + 1) (P / 2 ^ (k - 6)))) → m' sLb = some (.int ((k - 6 : Nat) : Int) tl') → m' sLc = some (.int ((P % 65536 : Nat) : Int) tc) → m' sOut = some (.ref R) → m' sNl = some (.bool false) → F .next (sh s h' tk')) :
    wpAny (MM w) A (execs (whB w) (b2aEnv w L)) F E (sh s h tk) := by
  have e6 : (k : Int) - 6 = ((k - 6 : Nat) : Int) := by omega
  have hlt : P / 2 ^ (k - 6) % 64 < 64 := Nat.mod_lt _ (by decide)
  have hsix := six_out (P := P) (e := k - 6) (by omega)
  have hsz : vs.toArray.size ≤ 1000 := by
    rw [List.size_toArray, hV.length, sgI_len, dg_len]
    exact hj
  obtain ⟨tb, eb⟩ := b64At w
  refine wpAny_execs_cons (wpAny_Expr_any (MethodCall_ ?_))
  refine nameL (s := sh s h _) S rfl rfl rfl f3 rfl (appMeth (S.at (List.Mem.head _)) hR ?_)
  refine PyProof.Rows.callWith_method1 (spliced_more (Subscript_ ?_))
  refine nameG (s := sh s h _) S.gd rfl rfl rfl rfl eb (wpAny_BinOp (wpAny_BinOp ?_))
  refine nameL (s := sh s h _) S rfl rfl rfl f2 rfl (wpAny_BinOp ?_)
  refine nameL (s := sh s h _) S rfl rfl rfl f1 rfl (cI (subI ?_))
  rw [e6]
  refine rshift_int (Int.natCast_nonneg _) (cI (and_int ?_))
  rw [hsix]
  generalize hx : P / 2 ^ (k - 6) % 64 = x at hlt ⊢
  refine itB (x := std) (by decide) (Int.natCast_nonneg _) (by rw [show std.length = 64 from rfl]; exact Int.ofNat_lt.mpr hlt) (by with_unfolding_all rfl) (by intro _; with_unfolding_all rfl) (spliced_none ?_)
  rw [Int.toNat_natCast]
  refine appS s S hnR hR hsz fun h7 o7 S7 hR7 => ?_
  refine wpAny_execs_cons (wpAny_Assign_Name (wpAny_BinOp ?_))
  refine nameL (s := sh s h7 _) S7 rfl rfl rfl f1 rfl (cI (subI ?_))
  rw [e6]
  refine storeL s S7 rfl rfl rfl fun h8 tk8 S8 => ?_
  refine wpAny_execs_nil (kk h8 tk8 _ o7 _ _ S8 (List.push_toArray vs _ ▸ hR7) ?_ rfl f2 f3 f4)
  rw [dg_out z, sgI_snoc, hx]
  exact ksk_snoc hV
end
noncomputable def fbB (w : World) : List Stmt := forBo (stN 5 (bodyOf (mk.zo_44 w.params)))
noncomputable def endB2 (w : World) : List Stmt := (bodyOf (mk.zo_44 w.params)).drop 6
noncomputable abbrev sB : Str := ⟨⟨[98]⟩⟩
theorem step_mod {P₀ P c : Nat} (hcv : c = P % 256) (hdiv : P / 256 = P₀) : (P₀ % 65536 * 256 + c) % 65536 = P % 65536 := by
  rw [hcv, ← hdiv]; omega
theorem step_div {P₀ P lb : Nat} (hdiv : P / 256 = P₀) : P / 2 ^ (lb + 8) = P₀ / 2 ^ lb := by
  rw [← hdiv, Nat.div_div_eq_div_mul P, show (256 : Nat) = 2 ^ 8 from rfl, ← Nat.pow_add, Nat.add_comm lb 8]
theorem le6 (k : Nat) : decide ((6 : Int) ≤ (k : Int)) = decide (6 ≤ k) := decide_eq_decide.mpr (by omega)
theorem eight {i j lb : Nat} (h : 8 * i = 6 * j + lb) : 8 * (i + 1) = 6 * j + (lb + 8) := by omega
theorem eight' {i j k : Nat} (h : 8 * (i + 1) = 6 * j + k) (z : 6 ≤ k) : 8 * (i + 1) = 6 * (j + 1) + (k - 6) := by omega
section
variable {w : World} {A : Around} {s : Shared} {F : Flow → Shared → Prop} {E : Value → Shared → Prop} {h₀ h : Heap} {L R : Addr} {m : Str → Option Value} {N : List (Addr × Obj)} {oR : Obj} {tk P₀ P j i lb c : Nat} {vs : List Value} {tl tc tb : Tok}
theorem bTurn (S : St w h₀ L m ((R, oR) :: N) h) (hnR : ∀ p ∈ N, p.1 ≠ R) (hR : LaO oR vs.toArray) (hV : IntsAre vs (sgI (dg 64 j (P₀ / 2 ^ lb)))) (hb : 8 * i = 6 * j + lb) (hl : lb < 6) (hi3 : i < 3) (hc : c < 256) (hcv : c = P % 256) (hdiv : P / 256 = P₀)
    (e0 : m sB = some (.int (c : Int) tb)) (e1 : m sLb = some (.int (lb : Int) tl)) (e2 : m sLc = some (.int ((P₀ % 65536 : Nat) : Int) tc)) (e3 : m sOut = some (.ref R)) (e4 : m sNl = some (.bool false))
    (kk : ∀ h' tk' m' o' vs' j' lb' tl' tc', St w h₀ L m' ((R, o') :: N) h' → LaO o' vs'.toArray → IntsAre vs' (sgI (dg 64 j' (P / 2 ^ lb'))) → 8 * (i + 1) = 6 * j' + lb' → lb' < 6 → m' sLb = some (.int (lb' : Int) tl') → m' sLc = some (.int ((P % 65536 : Nat) : Int) tc') → m' sOut = some (.ref R) → m' sNl = some (.bool false) → F .next (sh s h' tk')) :
    wpAny (MM w) A (execs (fbB w) (b2aEnv w L)) F E (sh s h tk) := by
  have h64 : ((P₀ % 65536 : Nat) : Int).natAbs < 2 ^ 64 := by rw [Int.natAbs_natCast]; exact Nat.lt_trans (Nat.mod_lt _ (by decide)) (by decide)
  refine wpAny_execs_cons (wpAny_Assign_Name (wpAny_BinOp (wpAny_BinOp (wpAny_BinOp ?_))))
  refine nameL (s := sh s h tk) S rfl rfl rfl e2 rfl (cI ?_)
  refine lshift_int_small (by decide) (by decide) h64 ?_
  refine nameL (s := sh s h _) S rfl rfl rfl e0 rfl (or_int (cI (and_int ?_)))
  rw [shift_in hc, step_mod hcv hdiv]
  refine storeL s S rfl rfl rfl fun h5 tk5 S5 => ?_
  refine wpAny_execs_cons (wpAny_Assign_Name (wpAny_BinOp ?_))
  refine nameL (s := sh s h5 tk5) S5 rfl rfl rfl e1 rfl (cI (addI ?_))
  refine storeL s S5 rfl rfl rfl fun h6 tk6 S6 => ?_
  have hV2 : IntsAre vs (sgI (dg 64 j (P / 2 ^ (lb + 8)))) := by rw [step_div hdiv]; exact hV
  refine wpAny_execs_cons (wpAny_While (codeAny_whileLoop (fun k s' => ∃ (j : Nat) (m : Str → Option Value) (h' : Heap) (tk : Nat) (oR : Obj) (vs : List Value) (tl tc : Tok), s' = sh s h' tk ∧ St w h₀ L m ((R, oR) :: N) h' ∧ LaO oR vs.toArray ∧
    IntsAre vs (sgI (dg 64 j (P / 2 ^ k))) ∧ 8 * (i + 1) = 6 * j + k ∧ k ≤ 13 ∧ m sLb = some (.int (k : Int) tl) ∧ m sLc = some (.int ((P % 65536 : Nat) : Int) tc) ∧ m sOut = some (.ref R) ∧ m sNl = some (.bool false)) ?_ (lb + 8) ⟨j, _, h6, tk6, oR, vs, _, _, rfl, S6, hR, hV2, eight hb, Nat.le_of_lt_succ (Nat.add_lt_add_right hl 8), rfl, rfl, e3, e4⟩))
  rintro k s' ⟨j, m, h', tk, oR, vs, tl, tc, rfl, S, hR, hV, hb, hk, f1, f2, f3, f4⟩
  refine wpAny_isTrue_Compare1 (nameL (s := sh s h' tk) S rfl rfl rfl f1 rfl (cI (geI (wpAny_truthy_bool ?_))))
  by_cases z : 6 ≤ k
  · rw [le6, decide_eq_true z, if_pos rfl]
    exact whTurn S hnR hR hV (Nat.le_trans (j_le hb hi3) (by decide)) z hk f1 f2 f3 f4 fun h8 tk8 m8 o7 vs8 tl8 S8 hR8 hV8 g1 g2 g3 g4 => ⟨k - 6, Nat.sub_lt (Nat.lt_of_lt_of_le (by decide) z) (by decide), j + 1, m8, h8, tk8, o7, vs8, tl8, tc, rfl, S8, hR8, hV8, eight' hb z, Nat.le_trans (Nat.sub_le _ _) hk, g1, g2, g3, g4⟩
  · rw [le6, decide_eq_false z, if_neg Bool.false_ne_true]
    exact wpAny_execs_nil (wpAny_execs_nil (kk h' _ m oR vs j k tl tc S hR hV hb (Nat.lt_of_not_le z) f1 f2 f3 f4))
theorem bEnd {ds : List Nat} (hh : A.handled = none) (S : St w h₀ L m ((R, oR) :: N) h) (hR : LaO oR vs.toArray) (hV : IntsAre vs (sgI ds)) (hz : ds.length ≤ 1000) (e1 : m sLb = some (.int ((0 : Nat) : Int) tl)) (e3 : m sOut = some (.ref R)) (e4 : m sNl = some (.bool false))
    (kk : ∀ h' tk' t', Kp h₀ h' → F (.ret (.bytes (sg std ds).toArray t')) (sh s h' tk')) : wpAny (MM w) A (execs (endB2 w) (b2aEnv w L)) F E (sh s h tk) := by
  have hr : ∀ x ∈ sgI ds, 0 ≤ x ∧ x < 256 := fun x hx => by
    obtain ⟨c, _, rfl⟩ := List.mem_map.mp hx
    exact ⟨Int.natCast_nonneg _, Int.ofNat_lt.mpr c.toNat_lt⟩
  have hv : vs.length ≤ sizeLine := by rw [hV.length, sgI_len, sizeLine_eq]; exact Nat.le_trans hz (by decide)
  have eb : byteArr (sgI ds) = (sg std ds).toArray := by
    unfold byteArr sgI
    rw [List.map_map]
    congr 1
    conv => rhs; rw [← List.map_id (sg std ds)]
    exact List.map_congr_left fun c _ => by simp
  refine wpAny_execs_cons (wpAny_If (wpAny_isTrue_Compare1 ?_))
  refine nameL (s := sh s h _) S rfl rfl rfl e1 rfl (cI (eqI (wpAny_truthy_bool ?_)))
  rw [if_neg (by decide)]
  refine wpAny_execs_cons (wpAny_If (wpAny_isTrue_Compare1 ?_))
  refine nameL (s := sh s h _) S rfl rfl rfl e1 rfl (cI (eqI (wpAny_truthy_bool ?_)))
  rw [if_neg (by decide)]
  refine wpAny_execs_nil (wpAny_execs_nil (wpAny_execs_cons (wpAny_If (isTrue_plain ?_))))
  refine nameL (s := sh s h _) S rfl rfl rfl e4 rfl (wpAny_truthy_bool ?_)
  rw [if_neg Bool.false_ne_true]
  refine wpAny_execs_nil (wpAny_execs_cons (wpAny_Return_some (Call_ ?_)))
  refine nameB (s := sh s h _) (.type "bytes") S.gd rfl rfl rfl rfl rfl (by kernel_rfl!) (by kernel_rfl!) ?_
  refine PySem.Pv.callWith_type1 (spliced_more (nameL (s := sh s h _) S rfl rfl rfl e3 rfl (spliced_none ?_)))
  refine call_bytes_ints (s := sh s h _) (ns := sgI ds) (hR.isL (S.at (List.Mem.head _))) hV hr hv hh fun h₂ t' k hk => ?_
  rw [eb]
  exact kk _ _ _ (S.kp.trans (Kp.of hk))
end
theorem last3 {n i j lb : Nat} (z : n = 0) (hi : n + i = 3) (hb : 8 * i = 6 * j + lb) (hl : lb < 6) : i = 3 ∧ lb = 0 ∧ j = 4 := by omega
section
variable {w : World} {A : Around} {s : Shared} {Q E : Value → Shared → Prop}
theorem b2aC {N : Nat} {t : Tok} (G : Gd w s.heap) (hroom : A.depth + 1 < recursionLimit) (hh : A.handled = none) (hN : N < 16777216) (h : ∀ h' tk t', Kp s.heap h' → Q (.bytes (sg std (dg 64 4 N)).toArray t') (sh s h' tk)) :
    wpAny (MM w) A (call (.ref 43) [.bytes (oct3 N) t] [(sNl, .bool false)]) Q E s := by
  refine enter G (by omega) (G 43 _ rfl (by decide)) rfl ⟨42, _, _, _, rfl, G 42 _ rfl (by decide), rfl, rfl⟩ rfl (BindsTo.of_eq rfl) (by decide) (locs rfl) ?_
  intro h₁ tk S
  refine wpAny_execs_cons (wpAny_Assign_Name (Call_ ?_))
  refine nameG S.gd rfl rfl rfl rfl (v := .ref 28) (by kernel_rfl!) ?_
  refine callWith_def (o := mk.zo_29 w.params) rfl (spliced_more (nameL S rfl rfl rfl rfl rfl (spliced_none ⟨S.gd 28 _ rfl (by decide), ?_⟩)))
  refine bufferC (s := sh s h₁ tk) S.gd (show A.depth + 1 < recursionLimit by omega) fun h₂ tk₂ k₂ => ?_
  refine storeL s (S.keep k₂) rfl rfl rfl fun h₃ tk₃ S => ?_
  refine wpAny_execs_cons (wpAny_Assign_Name (Call_ ?_))
  refine nameG (s := sh s h₃ tk₃) S.gd rfl rfl rfl rfl (v := .ref 35) (by kernel_rfl!) ?_
  refine callWith_def (o := mk.zo_36 w.params) rfl (spliced_more (nameL (s := sh s h₃ tk₃) S rfl rfl rfl rfl rfl (spliced_none ⟨S.gd 35 _ rfl (by decide), ?_⟩)))
  refine truthC (s := sh s h₃ tk₃) S.gd (show A.depth + 1 < recursionLimit by omega) fun h₄ tk₄ k₄ => ?_
  refine storeL s (S.keep k₄) rfl rfl rfl fun h₅ tk₅ S => ?_
  refine wpAny_execs_cons (wpAny_Assign_Name (List_ (spliced_none (newL (by simp) ?_))))
  have S6 := S.push (o := { cls := .type "list", data := .seq ([] : List Value).toArray })
  refine storeL s S6 rfl rfl rfl fun h₇ tk₇ S => ?_
  refine wpAny_execs_cons (wpAny_Assign_Name (cI (storeL s S rfl rfl rfl fun h₈ tk₈ S => ?_)))
  refine wpAny_execs_cons (wpAny_Assign_Name (cI (storeL s S rfl rfl rfl fun h₉ tk₉ S => ?_)))
  refine wpAny_execs_cons (wpAny_For ?_)
  refine nameL (s := sh s h₉ tk₉) S rfl rfl rfl rfl rfl (iterB s S fun it h₁₀ S hne => ?_)
  generalize h₅.objs.size = R at S hne ⊢
  have hRi : R ≠ it := hne (R, _) (List.Mem.head _)
  have ne1 : ∀ oR : Obj, ∀ p ∈ [(R, oR)], p.1 ≠ it := fun oR p hp => by rw [List.mem_singleton.mp hp]; exact hRi
  have ne2 : ∀ oI : Obj, ∀ p ∈ [(it, oI)], p.1 ≠ R := fun oI p hp => by rw [List.mem_singleton.mp hp]; exact Ne.symm hRi
  refine codeAny_forLoop (fun n s' => ∃ (i j lb : Nat) (m : Str → Option Value) (h' : Heap) (tk : Nat) (oI oR : Obj) (vs : List Value) (tl tc : Tok), s' = sh s h' tk ∧ n + i = 3 ∧ St w s.heap s.heap.objs.size m [(it, oI), (R, oR)] h' ∧ BiO oI (oct3 N) t i ∧ LaO oR vs.toArray ∧
    IntsAre vs (sgI (dg 64 j (N / 256 ^ (3 - i) / 2 ^ lb))) ∧ 8 * i = 6 * j + lb ∧ lb < 6 ∧ m sLb = some (.int (lb : Int) tl) ∧ m sLc = some (.int ((N / 256 ^ (3 - i) % 65536 : Nat) : Int) tc) ∧ m sOut = some (.ref R) ∧ m sNl = some (.bool false)) ?_ 3 ?_
  · rintro n s' ⟨i, j, lb, m, h', tk, oI, oR, vs, tl, tc, rfl, hi, S, hI, hR, hV, hb, hl, e1, e2, e3, e4⟩
    by_cases z : n = 0
    · obtain ⟨rfl, rfl, rfl⟩ := last3 z hi hb hl
      refine endB s S (ne1 oR) hI rfl hh fun h'' S => wpAny_execs_nil ?_
      have eN : N / 256 ^ (3 - 3) / 2 ^ 0 = N := by show N / 1 / 1 = N; rw [Nat.div_one, Nat.div_one]
      rw [eN] at hV
      exact bEnd hh S hR hV (by rw [dg_len]; decide) e1 e3 e4 fun h' tk' t' k' => h h' tk' t' k'
    · have hi3 : i < 3 := by omega
      obtain ⟨c, hc, hcv, hdiv⟩ := oct_at hN hi3
      refine nextB s S (ne1 oR) hI hc fun h'' oI' t' tk' S hI' => ?_
      refine wpAny_assign_Name (storeL s S rfl rfl rfl fun h4 tk4 S => ?_)
      exact bTurn S.swap (ne2 _) hR hV hb hl hi3 c.toNat_lt hcv hdiv rfl e1 e2 e3 e4 fun h' tk' m' o' vs' j' lb' tl' tc' S' hR' hV' hb' hl' g1 g2 g3 g4 => ⟨n - 1, by omega, i + 1, j', lb', m', h', tk', oI', o', vs', tl', tc', rfl, by omega, S'.swap, hI', hR', hV', hb', hl', g1, g2, g3, g4⟩
  · exact ⟨0, 0, 0, _, h₁₀, _, _, _, _, _, _, rfl, rfl, S, ⟨rfl, rfl⟩, ⟨rfl, rfl, _, rfl⟩, .nil, rfl, by omega, rfl, by
      have e : N / 256 ^ (3 - 0) % 65536 = 0 := by
        show N / 16777216 % 65536 = 0
        omega
      rw [e]; rfl, rfl, rfl⟩
end
end Mine
end
section
open PySem PySem.W PySem.W.X PyProof.Rows
namespace Mine
/-! THE PLAIN LAW. A number's pieces, its gap, the next number. -/
/-- value of figures -/
noncomputable def vl (b : Nat) (ds : List Nat) : Nat := ds.foldl (fun a d => a * b + d) 0
theorem vl_snoc (b : Nat) (ds : List Nat) (d : Nat) : vl b (ds ++ [d]) = vl b ds * b + d := by simp [vl]
theorem vl_dg (b : Nat) : ∀ k n, vl b (dg b k n) = n % b ^ k
  | 0, n => by simp [dg, vl, Nat.mod_one]
  | k + 1, n => by
    rw [dg, vl_snoc, vl_dg b k, Nat.pow_succ, Nat.mul_comm (b ^ k) b, Nat.mod_mul, Nat.mul_comm, Nat.add_comm]
/-- the gap of two pieces, of three -/
noncomputable def gp2 (w n : Nat) : Nat := max (n / w % w) (n % w) - min (n / w % w) (n % w)
noncomputable def gp3 (w n : Nat) : Nat := max (max (n / w / w % w) (n / w % w)) (n % w) - min (min (n / w / w % w) (n / w % w)) (n % w)
theorem two_figs {w a b : Nat} (hb : b < w) (ha : a < w) : (a * w + b) / w % w = a ∧ (a * w + b) % w = b := by
  have h0 : 0 < w := Nat.lt_of_le_of_lt (Nat.zero_le _) hb
  have e1 : (a * w + b) / w = a := by
    rw [Nat.add_comm, Nat.add_mul_div_right _ _ h0, Nat.div_eq_of_lt hb, Nat.zero_add]
  refine ⟨by rw [e1, Nat.mod_eq_of_lt ha], ?_⟩
  rw [Nat.add_comm, Nat.add_mul_mod_self_right, Nat.mod_eq_of_lt hb]
theorem gmul (k v : Nat) : (k + 1) * (k + v) = k * (k + 1 + v) + v := by
  rw [Nat.add_mul k 1, Nat.one_mul, Nat.add_right_comm k 1 v, Nat.mul_succ, Nat.add_assoc (k * (k + v))]
theorem gp2_at (k v : Nat) (hv : 0 < v) : gp2 (k + 1 + v) ((k + 1) * (k + v)) = max k v - min k v := by
  have f := two_figs (w := k + 1 + v) (a := k) (b := v) (Nat.lt_add_of_pos_left (Nat.succ_pos k)) (Nat.lt_of_lt_of_le (Nat.lt_succ_self k) (Nat.le_add_right _ _))
  unfold gp2
  rw [gmul, f.1, f.2]
theorem gp2_next {w g : Nat} (h0 : 0 < g) (h1 : g < w) : gp2 w (g * (w - 1)) = if w + 1 ≥ 2 * g then w + 1 - 2 * g else 2 * g - (w + 1) := by
  obtain ⟨k, rfl⟩ : ∃ k, g = k + 1 := ⟨g - 1, (Nat.sub_add_cancel h0).symm⟩
  obtain ⟨v, rfl⟩ := Nat.le.dest (Nat.le_of_lt h1)
  have hv : 0 < v := Nat.pos_of_ne_zero fun q => by rw [q] at h1; exact Nat.lt_irrefl _ h1
  rw [show k + 1 + v - 1 = k + v by rw [Nat.add_right_comm]; rfl, gp2_at k v hv]
  clear h0 h1 hv
  by_cases z : k ≤ v
  · rw [Nat.max_eq_right z, Nat.min_eq_left z, if_pos (by omega)]; omega
  · have z' : v ≤ k := Nat.le_of_not_le z
    rw [Nat.max_eq_left z', Nat.min_eq_right z', if_neg (by omega)]; omega
theorem gp3_next {g : Nat} (h0 : 0 < g) (h1 : g < 256) : gp3 256 (g * 65535) = max (256 - g) (g - 1) := by
  obtain ⟨k, rfl⟩ : ∃ k, g = k + 1 := ⟨g - 1, (Nat.sub_add_cancel h0).symm⟩
  have h2 : k < 255 := Nat.lt_of_succ_lt_succ h1
  have h3 : 255 - k < 256 := Nat.lt_of_le_of_lt (Nat.sub_le _ _) (by decide)
  have h4 : k < 256 := Nat.lt_trans h2 (by decide)
  have e : (k + 1) * 65535 = (k * 256 + 255) * 256 + (255 - k) := by clear h0 h1 h3 h4; omega
  have f1 := two_figs (w := 256) (a := k) (b := 255) (by decide) h4
  have d1 : ((k * 256 + 255) * 256 + (255 - k)) / 256 = k * 256 + 255 := by
    rw [Nat.add_comm, Nat.add_mul_div_right _ _ (by decide), Nat.div_eq_of_lt h3, Nat.zero_add]
  have m1 : ((k * 256 + 255) * 256 + (255 - k)) % 256 = 255 - k := by
    rw [Nat.add_comm, Nat.add_mul_mod_self_right, Nat.mod_eq_of_lt h3]
  have l1 : k ≤ 255 := Nat.le_of_lt h2
  have l2 : 255 - k ≤ 255 := Nat.sub_le _ _
  have e1 : 256 - (k + 1) = 255 - k := Nat.succ_sub_succ 255 k
  unfold gp3
  rw [e, d1, m1, f1.1, f1.2, Nat.max_eq_right l1, Nat.min_eq_left l1, Nat.max_eq_left l2, e1, Nat.add_sub_cancel]
  clear h0 h1 h3 h4 e f1 d1 m1 e1
  by_cases z : k ≤ 255 - k
  · rw [Nat.min_eq_left z, Nat.max_eq_left z]
  · have z' := Nat.le_of_not_le z
    rw [Nat.min_eq_right z', Nat.max_eq_right z', Nat.sub_sub_self l1]
end Mine
end
section
open PySem PySem.W PySem.W.X PyProof.Rows
namespace Mine
theorem vl_from (b : Nat) : ∀ (ds : List Nat) (a : Nat), ds.foldl (fun a d => a * b + d) a = a * b ^ ds.length + vl b ds
  | [], a => by simp [vl]
  | d :: ds, a => by
    have e1 := vl_from b ds (a * b + d)
    have e2 := vl_from b ds (0 * b + d)
    have e3 : vl b (d :: ds) = ds.foldl (fun a d => a * b + d) (0 * b + d) := rfl
    rw [e3, e2, List.foldl_cons, e1, List.length_cons, Nat.pow_succ, Nat.add_mul, Nat.mul_assoc, Nat.mul_comm b (b ^ ds.length), Nat.zero_mul, Nat.zero_add, Nat.add_assoc]
theorem vl_cons (b d : Nat) (ds : List Nat) : vl b (d :: ds) = d * b ^ ds.length + vl b ds := by
  have := vl_from b ds (0 * b + d)
  simpa [vl] using this
theorem vl_lt {b : Nat} : ∀ {ds : List Nat}, (∀ x ∈ ds, x < b) → vl b ds < b ^ ds.length
  | [], _ => by simp [vl]
  | d :: ds, h => by
    have ih := vl_lt (ds := ds) fun x hx => h x (List.mem_cons_of_mem _ hx)
    have hd := h d (List.mem_cons_self ..)
    rw [vl_cons, List.length_cons, Nat.pow_succ]
    have : (d + 1) * b ^ ds.length ≤ b * b ^ ds.length := Nat.mul_le_mul_right _ hd
    rw [Nat.add_mul, Nat.one_mul] at this
    rw [Nat.mul_comm (b ^ ds.length) b]
    omega
theorem gapf_vl {b : Nat} : ∀ {ds es : List Nat}, ds.length = es.length → (∀ x ∈ ds, x < b) → (∀ x ∈ es, x < b) → (gapf ds es < 0 ↔ vl b ds < vl b es)
  | [], [], _, _, _ => by simp [gapf]
  | d :: ds, [], h, _, _ => by simp at h
  | [], e :: es, h, _, _ => by simp at h
  | d :: ds, e :: es, h, h1, h2 => by
    have hl : ds.length = es.length := by simpa using h
    have k1 : ∀ x ∈ ds, x < b := fun x hx => h1 x (List.mem_cons_of_mem _ hx)
    have k2 : ∀ x ∈ es, x < b := fun x hx => h2 x (List.mem_cons_of_mem _ hx)
    have v1 := vl_lt k1
    have v2 := vl_lt k2
    rw [vl_cons, vl_cons, hl]
    rw [hl] at v1
    unfold gapf
    by_cases q : d = e
    · rw [if_pos q, gapf_vl hl k1 k2, q]; omega
    · rw [if_neg q]
      rcases Nat.lt_or_gt_of_ne q with z | z
      · have : (d + 1) * b ^ es.length ≤ e * b ^ es.length := Nat.mul_le_mul_right _ z
        rw [Nat.add_mul, Nat.one_mul] at this
        constructor <;> intro _ <;> omega
      · have : (e + 1) * b ^ es.length ≤ d * b ^ es.length := Nat.mul_le_mul_right _ z
        rw [Nat.add_mul, Nat.one_mul] at this
        constructor <;> intro _ <;> omega
theorem idx_at {al : List UInt8} (hd : al.Nodup) {i : Nat} (h : i < al.length) : al.idxOf (al.getD i 0) = i := by
  have e : al.getD i 0 = al[i] := by simp [List.getD, h]
  rw [e]
  have h1 : al.idxOf al[i] < al.length := List.idxOf_lt_length_of_mem (List.getElem_mem h)
  have h2 : al[al.idxOf al[i]] = al[i] := List.getElem_idxOf h1
  exact (List.getElem?_inj (j := i) h1 hd).mp (by rw [List.getElem?_eq_getElem h1, List.getElem?_eq_getElem h, h2])
theorem idx_sg {al : List UInt8} (hl : al.length = 64) (hd : al.Nodup) {ds : List Nat} (h : ∀ x ∈ ds, x < 64) : (sg al ds).map al.idxOf = ds := by
  rw [sg, List.map_map]
  conv => rhs; rw [← List.map_id ds]
  exact List.map_congr_left fun x hx => idx_at hd (by rw [hl]; exact h x hx)
end Mine
end
section
open PySem PySem.W PySem.W.X PyProof.Rows
namespace Mine
theorem vl_app (b : Nat) (x y : List Nat) : vl b (x ++ y) = vl b x * b ^ y.length + vl b y := by
  unfold vl
  rw [List.foldl_append, vl_from]
  rfl
theorem ord_vl {b : Nat} (hb : b ≤ 64) {x y : List Nat} (hl : x.length = y.length) (hx : ∀ d ∈ x, d < b) (hy : ∀ d ∈ y, d < b) : (vl 64 x ≤ vl 64 y ↔ vl b x ≤ vl b y) := by
  have h1 := gapf_vl (b := 64) hl.symm (fun d hd => Nat.lt_of_lt_of_le (hy d hd) hb) fun d hd => Nat.lt_of_lt_of_le (hx d hd) hb
  have h2 := gapf_vl (b := b) hl.symm hy hx
  omega
theorem top2 {a b p q : Nat} (h : (a = p ∧ b = q) ∨ (a = q ∧ b = p)) (o : b ≤ a) : a = max p q ∧ b = min p q := by
  rcases h with ⟨rfl, rfl⟩ | ⟨rfl, rfl⟩
  · exact ⟨(Nat.max_eq_left o).symm, (Nat.min_eq_right o).symm⟩
  · exact ⟨(Nat.max_eq_right o).symm, (Nat.min_eq_left o).symm⟩
/-- two lists of two sorted either way -/
theorem two_sorted {α : Type} {f : α → Nat} {p q : α} {x y : List α} (hx : x.Perm [p, q]) (hy : y.Perm [p, q]) (ox : x.Pairwise fun a b => f b ≤ f a) (oy : y.Pairwise fun a b => f a ≤ f b) :
    ∃ a b c d, x = [a, b] ∧ y = [c, d] ∧ f a = max (f p) (f q) ∧ f b = min (f p) (f q) ∧ f c = min (f p) (f q) ∧ f d = max (f p) (f q) := by
  have hx' : ∃ a b, x = [a, b] ∧ ((f a = f p ∧ f b = f q) ∨ (f a = f q ∧ f b = f p)) := by
    rcases ksk_perm2 hx with rfl | rfl
    · exact ⟨_, _, rfl, .inl ⟨rfl, rfl⟩⟩
    · exact ⟨_, _, rfl, .inr ⟨rfl, rfl⟩⟩
  have hy' : ∃ a b, y = [a, b] ∧ ((f b = f p ∧ f a = f q) ∨ (f b = f q ∧ f a = f p)) := by
    rcases ksk_perm2 hy with rfl | rfl
    · exact ⟨_, _, rfl, .inr ⟨rfl, rfl⟩⟩
    · exact ⟨_, _, rfl, .inl ⟨rfl, rfl⟩⟩
  obtain ⟨a, b, rfl, h1⟩ := hx'
  obtain ⟨c, d, rfl, h2⟩ := hy'
  have o1 : f b ≤ f a := (List.pairwise_cons.mp ox).1 b (List.Mem.head _)
  have o2 : f c ≤ f d := (List.pairwise_cons.mp oy).1 d (List.Mem.head _)
  have t1 := top2 h1 o1
  have t2 := top2 h2 o2
  exact ⟨a, b, c, d, rfl, rfl, t1.1, t1.2, t2.2, t2.1⟩
theorem max3_of {a p q r : Nat} (h : a = p ∨ a = q ∨ a = r) (h1 : p ≤ a) (h2 : q ≤ a) (h3 : r ≤ a) : a = max (max p q) r := by
  refine Nat.le_antisymm ?_ (Nat.max_le.mpr ⟨Nat.max_le.mpr ⟨h1, h2⟩, h3⟩)
  rcases h with rfl | rfl | rfl
  · exact Nat.le_trans (Nat.le_max_left _ _) (Nat.le_max_left _ _)
  · exact Nat.le_trans (Nat.le_max_right _ _) (Nat.le_max_left _ _)
  · exact Nat.le_max_right _ _
theorem min3_of {a p q r : Nat} (h : a = p ∨ a = q ∨ a = r) (h1 : a ≤ p) (h2 : a ≤ q) (h3 : a ≤ r) : a = min (min p q) r := by
  refine Nat.le_antisymm (Nat.le_min.mpr ⟨Nat.le_min.mpr ⟨h1, h2⟩, h3⟩) ?_
  rcases h with rfl | rfl | rfl
  · exact Nat.le_trans (Nat.min_le_left _ _) (Nat.min_le_left _ _)
  · exact Nat.le_trans (Nat.min_le_left _ _) (Nat.min_le_right _ _)
  · exact Nat.min_le_right _ _
theorem top3 {α : Type} {f : α → Nat} {a b c p q r : α} (h : [a, b, c].Perm [p, q, r]) (o1 : f b ≤ f a) (o2 : f c ≤ f b) : f a = max (max (f p) (f q)) (f r) ∧ f c = min (min (f p) (f q)) (f r) ∧ f a + f b + f c = f p + f q + f r := by
  have mem : ∀ z, z ∈ [a, b, c] → f z = f p ∨ f z = f q ∨ f z = f r := fun z hz => by
    have := h.mem_iff.mp hz
    simp only [List.mem_cons, List.not_mem_nil, or_false] at this
    rcases this with rfl | rfl | rfl
    · exact .inl rfl
    · exact .inr (.inl rfl)
    · exact .inr (.inr rfl)
  have o3 := Nat.le_trans o2 o1
  have bnd : ∀ z, z ∈ [p, q, r] → f c ≤ f z ∧ f z ≤ f a := fun z hz => by
    have := h.mem_iff.mpr hz
    simp only [List.mem_cons, List.not_mem_nil, or_false] at this
    rcases this with rfl | rfl | rfl
    · exact ⟨o3, Nat.le_refl _⟩
    · exact ⟨o2, o1⟩
    · exact ⟨Nat.le_refl _, o3⟩
  have bp := bnd p (by simp)
  have bq := bnd q (by simp)
  have br := bnd r (by simp)
  refine ⟨max3_of (mem a (by simp)) bp.2 bq.2 br.2, min3_of (mem c (by simp)) bp.1 bq.1 br.1, ?_⟩
  have s := (h.map f).sum_nat
  simpa [Nat.add_assoc] using s
theorem three_sorted {α : Type} {f : α → Nat} {p q r : α} {x y : List α} (hx : x.Perm [p, q, r]) (hy : y.Perm [p, q, r]) (ox : x.Pairwise fun a b => f b ≤ f a) (oy : y.Pairwise fun a b => f a ≤ f b) :
    ∃ a b c d e g, x = [a, b, c] ∧ y = [d, e, g] ∧ f a = max (max (f p) (f q)) (f r) ∧ f c = min (min (f p) (f q)) (f r) ∧ f d = f c ∧ f e = f b ∧ f g = f a ∧ f c ≤ f a := by
  have len3 : ∀ l : List α, l.length = 3 → ∃ a b c, l = [a, b, c] := fun l h => by
    match l, h with
    | [a, b, c], _ => exact ⟨a, b, c, rfl⟩
  obtain ⟨a, b, c, rfl⟩ := len3 x hx.length_eq
  obtain ⟨d, e, g, rfl⟩ := len3 y hy.length_eq
  have px := List.pairwise_cons.mp ox
  have py := List.pairwise_cons.mp oy
  have o1 : f b ≤ f a := px.1 b (List.Mem.head _)
  have o2 : f c ≤ f b := (List.pairwise_cons.mp px.2).1 c (List.Mem.head _)
  have o3 : f d ≤ f e := py.1 e (List.Mem.head _)
  have o4 : f e ≤ f g := (List.pairwise_cons.mp py.2).1 g (List.Mem.head _)
  have t1 := top3 hx o1 o2
  have hr : [g, e, d].Perm [d, e, g] := List.reverse_perm [d, e, g]
  have t2 := top3 (hr.trans hy) o4 o3
  have e1 : f g = f a := t2.1.trans t1.1.symm
  have e2 : f d = f c := t2.2.1.trans t1.2.1.symm
  have e3 : f e = f b := by
    have s := t2.2.2.trans t1.2.2.symm
    rw [e1, e2] at s
    omega
  exact ⟨a, b, c, d, e, g, rfl, rfl, t1.1, t1.2.1, e2, e3, e1, Nat.le_trans o2 o1⟩
end Mine
end
section
open PySem PySem.W PySem.W.X PyProof.Rows
set_option maxRecDepth 100000
set_option maxHeartbeats 1000000
namespace Mine
/-- the i-th of a bytes' ints -/
noncomputable abbrev AtB (b : Array UInt8) (i : Nat) (v : Value) : Prop := ∃ c u, b[i]? = some c ∧ v = .int (c.toNat : Int) u
section
variable {prog : Program} {w : World} {A : Around} {E : Value → Shared → Prop} {s : Shared}
/-- a bytes' length is asked for silently -/
theorem hint_bytes {x : Array UInt8} {t : Tok} {Q : Bool → Shared → Prop} (k : Q false s) : wpAny (model prog w) A (Builtin.List.listLengthHint (.bytes x t)) Q E s := by
  have tb : typeOf (.bytes x t) = pure (.type "bytes") := rfl
  have ln : typeLookup (.type "bytes") "__len__" = pure (some (.builtin "bytes.__len__")) := by rw [typeLookup_type, builtinLookup_eq_fast]; kernel_rfl
  have sb : isSubtype (.type "bytes") (.type "bytes") = pure true := by rw [isSubtype_type]; kernel_rfl
  unfold Builtin.List.listLengthHint
  refine wpAny_bind (wpAny_specialOf tb ln (wpAny_bind ?_))
  wp_delta
  refine wpAny_isInstance (T := "bytes") tb sb ?_
  show wpAny _ _ (typeOf (.bytes x t) >>= _) Q E s
  exact wpAny_bind (wpAny_typeOf tb (wpAny_pure k))
theorem list_bytes {Q : Value → Shared → Prop} (hh : A.handled = none) (x : Array UInt8) (t : Tok) (hn : x.size ≤ sizeLine)
    (k : ∀ h' tk acc c, (∀ b o, s.heap.get? b = some o → h'.get? b = some o) → h'.get? s.heap.objs.size = some { cls := .type "list", dict := none, data := .seq acc c, slots := #[] } →
      ItemsOf (AtB x) acc x.size → Q (.ref s.heap.objs.size) { s with heap := h', toks := tk }) : wpAny (model prog w) A (call (.type "list") [.bytes x t]) Q E s := by
  obtain ⟨h, g, dr, tk, os⟩ := s
  refine callType_codes (Q₁ := fun v z => v = .ref h.objs.size ∧ z = ⟨h.push (seqObj "list" #[] 0), g, dr, tk, os⟩) F.called_list (F.typeCall_list_1 _) F.entry_list_init (code_list_new _ ⟨rfl, rfl⟩) ?_
  rintro _ _ ⟨rfl, rfl⟩
  have new : (h.push (seqObj "list" #[] 0)).get? h.objs.size = some (seqObj "list" #[] 0) := Heap.get?_push_size _ rfl
  refine ⟨⟨_, new, rfl⟩, F.args_list_init_2 _ _, ?_⟩
  unfold Builtin.«list.__init__»
  wp_walk using listItems_at new rfl, listUpdate_at new rfl, KBw.pyIter_bytes, hint_bytes
  have z : ((h.push (seqObj "list" #[] 0)).update h.objs.size (Obj.mapSeq fun _ => #[])).objs.size = h.objs.size + 1 := by rw [Heap.size_update, size_push']
  have lt : h.objs.size ∉ [((h.push (seqObj "list" #[] 0)).update h.objs.size (Obj.mapSeq fun _ => #[])).objs.size] := by
    rw [List.mem_singleton, z]; exact Nat.ne_of_lt (Nat.lt_succ_self _)
  refine ⟨plainId_quiet F.plain_extend_loop _, codeAny_extend_loopS (KBw.walks (A := A.in1.in1) hh _ x t).toS hn _ lt _ x.size 0 _ _ _ rfl (Nat.zero_le _) ⟨_, Heap.get?_push_size _ rfl, rfl, rfl⟩
    (Heap.get?_push_of_some _ (Heap.get?_update_self _ new rfl)) (ItemsOf.nil _) fun s' acc c mv at_ its => ?_⟩
  rw [mv.eq_with]
  refine ⟨rfl, k _ _ acc c (fun b o e => ?_) at_ its⟩
  have old := Heap.lt_size e
  refine mv.heap b o (fun m => ?_) (Heap.get?_push_of_some _ ((Heap.get?_update_other _ _ (Nat.ne_of_gt old)).trans (Heap.get?_push_of_some _ e)))
  simp only [List.mem_cons, List.not_mem_nil, or_false, z] at m
  rcases m with rfl | rfl
  · exact absurd old (Nat.lt_irrefl _)
  · exact absurd old (Nat.not_lt.mpr (Nat.le_succ _))
end
end Mine
end
section
open PySem PySem.W PySem.W.X PyProof.Rows
set_option maxRecDepth 100000
set_option maxHeartbeats 1000000
namespace Mine
theorem tb_bytes (b : Array UInt8) (t : Tok) : Builtin.Bytes.takeBufferQuiet? "bytes.join" (.bytes b t) 0 = pure (some (b, none)) := by kernel_rfl!
theorem slot_bytes_join : Slot "bytes" "join" "bytes.join" :=
  .of (owner := "bytes") (n := "join") (by rw [typeLookup_type, builtinLookup_eq_fast]; kernel_rfl) (by decide +kernel) (by decide +kernel) (by decide +kernel)
    (by first | exact .inl (by decide +kernel) | exact .inr (by decide +kernel)) (by rw [isSubtype_type]; kernel_rfl)
theorem type_bytes_join : typeOf (.builtin "bytes.join") = pure (.type "method_descriptor") := by show builtinType _ = _; rw [builtinType_eq_fast]; kernel_rfl
theorem entry_bytes_join : entryFor table "bytes.join" = some Builtin.«bytes.join» := entryFor_of_tree (by kernel_rfl)
theorem args_bytes_join (a b : Value) : argsOk "bytes.join" ⟨[a, b], []⟩ := by unfold argsOk; kernel_rfl
section
variable {M : Model} {A : Around} {E : Value → Shared → Prop} {s : Shared} {β : Type}
theorem wpA_nil {f : Nat → β → Sem (ForInStep β)} {c : β} {Q : β → Shared → Prop} (h : Q c s) : wpAny M A (forIn ([] : List Nat) c f) Q E s := by
  rw [List.forIn_nil]; exact wpAny_pure h
theorem wpA_cons {f : Nat → β → Sem (ForInStep β)} {x : Nat} {l : List Nat} {c : β} {Q : β → Shared → Prop}
    (h : wpAny M A (f x c) (fun r s' => wpAny M A (match r with | .done b => pure b | .yield b => forIn l b f) Q E s') E s) : wpAny M A (forIn (x :: l) c f) Q E s := by
  rw [List.forIn_cons]; exact wpAny_bind h
theorem wpA_range {f : Nat → β → Sem (ForInStep β)} {a b : Nat} {l : List Nat} {c : β} {Q : β → Shared → Prop} (hl : List.range' a (b - a) 1 = l) (h : wpAny M A (forIn l c f) Q E s) : wpAny M A (forIn [a:b] c f) Q E s := forRange c f hl ▸ h
end
section
variable {prog : Program} {w : World} {A : Around} {E : Value → Shared → Prop} {s : Shared}
theorem join2 {l : Addr} {b c : Array UInt8} {t tb tc : Tok} {Q : Value → Shared → Prop} (hl : s.heap.IsList l #[.bytes b tb, .bytes c tc]) (hz : b.size + c.size ≤ 1000) (h : ∀ t' tk, Q (.bytes (b ++ c) t') { s with toks := tk }) :
    wpAny (model prog w) A (call (.builtin "bytes.join") [.bytes #[] t, .ref l]) Q E s := by
  obtain ⟨o, ho, hc, n, hd⟩ := id hl
  refine wpAny_call_entry slot_bytes_join (typeIs_bytes _ _ _) entry_bytes_join ?_ (args_bytes_join _ _)
  unfold Builtin.«bytes.join» Builtin.Bytes.joinM
  refine wpAny_bind (wpAny_of_eq (a := (Value.bytes #[] t, Value.ref l)) (by kernel_rfl!) ?_)
  refine wpAny_bind ?_
  show wpAny _ _ (Builtin.Bytes.joinItems (.ref l)) _ _ _
  unfold Builtin.Bytes.joinItems
  refine wpAny_bind (wpAny_typeOf hl.typeIs ?_)
  refine wpAny_pure ?_
  refine wpAny_bind (wpAny_seqItems ho hd ?_)
  refine wpAny_bind (wpA_range (l := [0, 1]) rfl (wpA_cons ?_))
  refine wpAny_bind (wpAny_seqItems ho hd ?_)
  refine wpAny_bind (wpAny_holding (wpAny_of_eq (a := some (b, none)) (by kernel_rfl!) ?_))
  refine wpAny_bind (wpAny_seqItems ho hd ?_)
  refine wpAny_pure (wpA_cons ?_)
  refine wpAny_bind (wpAny_seqItems ho hd ?_)
  refine wpAny_bind (wpAny_holding (wpAny_of_eq (a := some (c, none)) (by kernel_rfl!) ?_))
  refine wpAny_bind (wpAny_seqItems ho hd ?_)
  refine wpAny_pure (wpA_nil ?_)
  refine wpAny_bind (wpAny_of_eq (a := #[]) (by kernel_rfl!) ?_)
  have hz' : Builtin.Bytes.tooLong (Array.foldl (fun x1 x2 => x1 + x2.size) ((#[] : Array UInt8).size * ((#[b, c] : Array (Array UInt8)).size - 1)) #[b, c]) = false := by
    show decide (0 * 1 + b.size + c.size > sizeLine) = false
    rw [sizeLine_eq]
    exact decide_eq_false (by omega)
  refine bm_if_false hz' ?_
  refine wpAny_bind (wpAny_mkBytes ?_ ?_)
  · refine wpAny_bind (wpAny_holding (nd_point (nd_pure ?_)))
    refine wpAny_bind (wpAny_bind (wpAny_letGo (wpAny_bind (wpAny_letGo (wpAny_pure ?_)))))
    refine wpAny_pure ⟨_, rfl, ?_⟩
    have e : Builtin.Bytes.joined #[] [b, c] = b ++ c := by simp [Builtin.Bytes.joined]
    show Q (.bytes (Builtin.Bytes.joined #[] [b, c]) s.toks) _
    rw [e]
    exact h _ _
  · show (Builtin.Bytes.joined #[] [b, c]).size ≤ _
    have e : Builtin.Bytes.joined #[] [b, c] = b ++ c := by simp [Builtin.Bytes.joined]
    rw [e, sizeLine_eq, Array.size_append]
    omega
theorem join3 {l : Addr} {b c d : Array UInt8} {t tb tc td : Tok} {Q : Value → Shared → Prop} (hl : s.heap.IsList l #[.bytes b tb, .bytes c tc, .bytes d td]) (hz : b.size + c.size + d.size ≤ 1000) (h : ∀ t' tk, Q (.bytes (b ++ c ++ d) t') { s with toks := tk }) :
    wpAny (model prog w) A (call (.builtin "bytes.join") [.bytes #[] t, .ref l]) Q E s := by
  obtain ⟨o, ho, hc, n, hd⟩ := id hl
  refine wpAny_call_entry slot_bytes_join (typeIs_bytes _ _ _) entry_bytes_join ?_ (args_bytes_join _ _)
  unfold Builtin.«bytes.join» Builtin.Bytes.joinM
  refine wpAny_bind (wpAny_of_eq (a := (Value.bytes #[] t, Value.ref l)) (by kernel_rfl!) ?_)
  refine wpAny_bind ?_
  show wpAny _ _ (Builtin.Bytes.joinItems (.ref l)) _ _ _
  unfold Builtin.Bytes.joinItems
  refine wpAny_bind (wpAny_typeOf hl.typeIs ?_)
  refine wpAny_pure ?_
  refine wpAny_bind (wpAny_seqItems ho hd ?_)
  refine wpAny_bind (wpA_range (l := [0, 1, 2]) rfl (wpA_cons ?_))
  refine wpAny_bind (wpAny_seqItems ho hd ?_)
  refine wpAny_bind (wpAny_holding (wpAny_of_eq (a := some (b, none)) (by kernel_rfl!) ?_))
  refine wpAny_bind (wpAny_seqItems ho hd ?_)
  refine wpAny_pure (wpA_cons ?_)
  refine wpAny_bind (wpAny_seqItems ho hd ?_)
  refine wpAny_bind (wpAny_holding (wpAny_of_eq (a := some (c, none)) (by kernel_rfl!) ?_))
  refine wpAny_bind (wpAny_seqItems ho hd ?_)
  refine wpAny_pure (wpA_cons ?_)
  refine wpAny_bind (wpAny_seqItems ho hd ?_)
  refine wpAny_bind (wpAny_holding (wpAny_of_eq (a := some (d, none)) (by kernel_rfl!) ?_))
  refine wpAny_bind (wpAny_seqItems ho hd ?_)
  refine wpAny_pure (wpA_nil ?_)
  refine wpAny_bind (wpAny_of_eq (a := #[]) (by kernel_rfl!) ?_)
  have hz' : Builtin.Bytes.tooLong (Array.foldl (fun x1 x2 => x1 + x2.size) ((#[] : Array UInt8).size * ((#[b, c, d] : Array (Array UInt8)).size - 1)) #[b, c, d]) = false := by
    show decide (0 * 2 + b.size + c.size + d.size > sizeLine) = false
    rw [sizeLine_eq]
    exact decide_eq_false (by omega)
  refine bm_if_false hz' ?_
  have e : Builtin.Bytes.joined #[] [b, c, d] = b ++ c ++ d := by simp [Builtin.Bytes.joined]
  refine wpAny_bind (wpAny_mkBytes ?_ ?_)
  · refine wpAny_bind (wpAny_holding (nd_point (nd_pure ?_)))
    refine wpAny_bind (wpAny_bind (wpAny_letGo (wpAny_bind (wpAny_letGo (wpAny_bind (wpAny_letGo (wpAny_pure ?_)))))))
    refine wpAny_pure ⟨_, rfl, ?_⟩
    show Q (.bytes (Builtin.Bytes.joined #[] [b, c, d]) s.toks) _
    rw [e]
    exact h _ _
  · show (Builtin.Bytes.joined #[] [b, c, d]).size ≤ _
    rw [e, sizeLine_eq, Array.size_append, Array.size_append]
    omega
end
end Mine
end
section
open PySem PySem.W PySem.W.X PyProof.Rows
set_option maxRecDepth 100000
set_option maxHeartbeats 1000000
namespace Mine
/-- _law_read's lambda -/
noncomputable def lam3 (w : World) : Expr := callA (asV (stN 0 (bodyOf (mk.zo_103 w.params))))
noncomputable abbrev sPl : Str := ⟨⟨[112, 108, 97, 99, 101, 115]⟩⟩
noncomputable abbrev sBase : Str := ⟨⟨[98, 97, 115, 101]⟩⟩
section
variable {w : World} {A : Around} {s : Shared} {Q E : Value → Shared → Prop}
theorem lamRead {q cp cb d : Addr} {al : List UInt8} {b i : Nat} {c : UInt8} {a : Nat} {t u tb : Tok} {cl : List (Str × Addr)} (G : Gd w s.heap) (Lm : Lam s.heap q (lam3 w) cl) (e1 : cl.lookup sPl = some cp) (e2 : cl.lookup sBase = some cb)
    (C : Cl s.heap cp (.ref d)) (B : Cl s.heap cb (.int b tb)) (P : Pl w s.heap d al) (hroom : A.depth + 1 < recursionLimit) (ha : a < 1073741824) (hb : b ≤ 64) (hc : al[i]? = some c)
    (h : ∀ h' tk t', Kp s.heap h' → Q (.int ((a * b + i : Nat) : Int) t') (sh s h' tk)) :
    wpAny (MM w) A (call (.ref q) [.int a t, .int c.toNat u]) Q E s := by
  obtain ⟨_, nm, qual, pm, c', ctv, _, ho, hcd⟩ := Lm
  refine enterE G (by omega) ho rfl hcd rfl (BindsTo.of_eq rfl) (noCells (by kernel_rfl!)) (locs rfl) rfl rfl rfl ?_
  intro h₁ tk S
  refine wpAny_BinOp (wpAny_BinOp ?_)
  refine nameL S rfl rfl rfl rfl rfl (nameF rfl rfl e2 (B.kp S.kp).2 rfl rfl ?_)
  refine PyProof.Rows.mul_int ?_ (IntMulOk.of_right (intBits_le_64 (by omega) (by omega)))
  refine MethodCall_ (nameF (s := sh s h₁ (tk + 1)) rfl rfl e1 (C.kp S.kp).2 rfl rfl (plMeth (P.kp S.kp) ?_))
  refine PyProof.Rows.callWith_method1 (spliced_more ?_)
  refine nameL (s := sh s h₁ (tk + 1)) S rfl rfl rfl rfl rfl (spliced_more (wpAny_UnaryOp (cI (negI (spliced_none (plGet (P.kp S.kp) hc fun t' => addI ?_))))))
  have : (a : Int) * b + i = ((a * b + i : Nat) : Int) := by simp
  rw [this]
  exact h _ _ _ S.kp
end
end Mine
end
section
open PySem PySem.W PySem.W.X PySem.W.ZRun PyProof.Rows
set_option maxRecDepth 100000
set_option maxHeartbeats 0
namespace Mine
theorem mkB : True := by
  first
    | (have q : rowT.Holds := (by w_on; z_head; fail)
       trivial)
    | trivial
/-- the top's tree of objects without the tables that law's way changes -/
noncomputable def cutKT (bad : Nat → Bool) : Nat → Nat → KT → KT
  | _, _, .nil => .nil
  | s, b, .node v l r => .node (match bad b with | true => none | false => v) (cutKT bad (2 * s) (s + b) l) (cutKT bad (2 * s) (2 * s + b) r)
noncomputable def isBad (a : Nat) : Bool := Nat.beq a 97 || (Nat.beq a 109 || Nat.beq a 121)
theorem holds_cut {h h' : Heap} (k : ∀ a o, h.get? a = some o → isBad a = false → h'.get? a = some o) : ∀ {t : KT} {s b : Nat}, KT.Holds h s b t → KT.Holds h' s b (cutKT isBad s b t)
  | .nil, _, _, _ => trivial
  | .node v l r, s, b, H => by
    refine ⟨fun o e => ?_, holds_cut k H.2.1, holds_cut k H.2.2⟩
    cases q : isBad b with
    | true => rw [q] at e; cases e
    | false => rw [q] at e; exact k _ _ (H.1 o e) q
noncomputable def mkB.ktop_249 (P : Params) : KT := cutKT isBad 1 0 (mk.ktop_249 P)
noncomputable abbrev mkB.zo_9 (P : Params) : Obj := mk.zo_9 P
noncomputable abbrev mkB.zo_10 (P : Params) : Obj := mk.zo_10 P
noncomputable abbrev mkB.zo_13 (P : Params) : Obj := mk.zo_13 P
noncomputable abbrev mkB.zo_14 (P : Params) : Obj := mk.zo_14 P
noncomputable abbrev mkB.zo_17 (P : Params) : Obj := mk.zo_17 P
noncomputable abbrev mkB.zo_21 (P : Params) : Obj := mk.zo_21 P
noncomputable abbrev mkB.zo_24 (P : Params) : Obj := mk.zo_24 P
noncomputable abbrev mkB.zo_28 (P : Params) : Obj := mk.zo_28 P
noncomputable abbrev mkB.zo_31 (P : Params) : Obj := mk.zo_31 P
noncomputable abbrev mkB.zo_35 (P : Params) : Obj := mk.zo_35 P
noncomputable abbrev mkB.zo_39 (P : Params) : Obj := mk.zo_39 P
noncomputable abbrev mkB.zo_43 (P : Params) : Obj := mk.zo_43 P
noncomputable abbrev mkB.zo_47 (P : Params) : Obj := mk.zo_47 P
noncomputable abbrev mkB.zo_51 (P : Params) : Obj := mk.zo_51 P
noncomputable abbrev mkB.zo_54 (P : Params) : Obj := mk.zo_54 P
noncomputable abbrev mkB.zo_58 (P : Params) : Obj := mk.zo_58 P
noncomputable abbrev mkB.zo_63 (P : Params) : Obj := mk.zo_63 P
noncomputable abbrev mkB.zo_67 (P : Params) : Obj := mk.zo_67 P
noncomputable abbrev mkB.zo_70 (P : Params) : Obj := mk.zo_70 P
noncomputable abbrev mkB.zo_74 (P : Params) : Obj := mk.zo_74 P
noncomputable abbrev mkB.zo_77 (P : Params) : Obj := mk.zo_77 P
noncomputable abbrev mkB.zo_81 (P : Params) : Obj := mk.zo_81 P
noncomputable abbrev mkB.zo_84 (P : Params) : Obj := mk.zo_84 P
noncomputable abbrev mkB.zo_88 (P : Params) : Obj := mk.zo_88 P
noncomputable abbrev mkB.zo_91 (P : Params) : Obj := mk.zo_91 P
noncomputable abbrev mkB.zo_95 (P : Params) : Obj := mk.zo_95 P
noncomputable def mkB.zo_98 (_ : Params) : Obj := { cls := .none, data := .plain }
noncomputable def mkB.zo_102 (_ : Params) : Obj := { cls := .none, data := .plain }
noncomputable abbrev mkB.zo_105 (P : Params) : Obj := mk.zo_105 P
noncomputable abbrev mkB.zo_107 (P : Params) : Obj := mk.zo_107 P
noncomputable def mkB.zo_110 (_ : Params) : Obj := { cls := .none, data := .plain }
noncomputable def mkB.zo_114 (_ : Params) : Obj := { cls := .none, data := .plain }
noncomputable abbrev mkB.zo_117 (P : Params) : Obj := mk.zo_117 P
noncomputable abbrev mkB.zo_119 (P : Params) : Obj := mk.zo_119 P
noncomputable def mkB.zo_122 (_ : Params) : Obj := { cls := .none, data := .plain }
noncomputable def mkB.zo_124 (_ : Params) : Obj := { cls := .none, data := .plain }
/-- cmp_to_key's class: its body, __init__, __lt__ -/
noncomputable def clsB (w : World) : List Stmt := match bodyOf (mk.zo_59 w.params) with
  | .ClassDef _ _ _ b .. :: _ => b
  | _ => []
noncomputable def fnP : Stmt → Arguments
  | .FunctionDef _ a .. => a
  | _ => default
noncomputable def fnB : Stmt → List Stmt
  | .FunctionDef _ _ b .. => b
  | _ => []
noncomputable def fnS : Stmt → Scope
  | .FunctionDef _ _ _ _ _ _ s .. => s
  | _ => default
noncomputable def initS (w : World) : Stmt := match clsB w with
  | _ :: _ :: s :: _ => s
  | _ => default
noncomputable def ltS (w : World) : Stmt := match clsB w with
  | _ :: _ :: _ :: s :: _ => s
  | _ => default
noncomputable abbrev sMycmp : Str := ⟨⟨[109, 121, 99, 109, 112]⟩⟩
noncomputable def kAt (T : BT) : List Addr → Frag
  | [] => []
  | a :: l => match T.get (a - 155) with
    | some o => (a, o) :: kAt T l
    | none => kAt T l
theorem kAt_in {T : BT} {h : Heap} (H : ∀ i o, T.get i = some o → h.get? (155 + i) = some o) : ∀ l : List Addr, (∀ a ∈ l, @LE.le Nat _ 155 a) → (kAt T l).In h
  | [], _ => fun a o e => by cases e
  | b :: l, hl => fun a o e => by
    have ih := kAt_in H l fun a ha => hl a (List.mem_cons_of_mem _ ha)
    unfold kAt at e
    cases q : T.get (b - 155) with
    | none => rw [q] at e; exact ih a o e
    | some o' =>
      rw [q] at e
      dsimp only at e
      rw [List.lookup_cons] at e
      cases z : a == b with
      | false => rw [z] at e; exact ih a o e
      | true =>
        rw [z] at e
        cases e
        have hb := hl b (List.mem_cons_self ..)
        have := H _ _ q
        rw [beq_iff_eq.mp z]
        have e2 : 155 + (b - 155) = b := Nat.add_sub_cancel' hb
        rw [e2] at this
        exact this
/-- the class's objects -/
noncomputable abbrev kfr (T : BT) : Frag := kAt T [156, 170, 171, 178, 179, 214, 215, 216]
noncomputable def fdOf : Option Obj → FuncData
  | some ⟨_, _, .func fd, _⟩ => fd
  | _ => default
noncomputable def codeQ : Option Obj → Option Str
  | some ⟨_, _, .fields (vs : Array Value), _⟩ => (match (vs[1]? : Option Value) with | some (Value.str q _) => some q | _ => none)
  | _ => none
/-- a def's object and its code's -/
noncomputable def FnIs (f c : Option Obj) (st : Stmt) (cl : List (Str × Addr)) (ca : Addr) : Prop := f = some (fnMade (fdOf f).name (fdOf f).qualname (fnP st) (fnB st) (fnS st) cl (fdOf f).doc (fdOf f).pyModule ca (fdOf f).closureTuple) ∧ codeQ c = some (fdOf f).qualname
theorem codeQ_of {c : Option Obj} {q : Str} (e : codeQ c = some q) : ∃ o vs t, c = some o ∧ o.data = .fields vs ∧ vs[1]? = some (.str q t) := by
  unfold codeQ at e
  split at e
  · split at e
    · rename_i z; cases e; exact ⟨_, _, _, rfl, rfl, z⟩
    · cases e
  · cases e
noncomputable def cellV : Option Obj → Option Value
  | some ⟨_, _, .cell v, _⟩ => v
  | _ => none
/-- the class K as the run makes it -/
structure KGood (w : World) (T : BT) : Prop where
  cell : cellV (T.get 1) = some (.ref 154)
  makes : makesIn (kfr T) 215 = true
  init : findIn (kfr T) (.ref 215) "__init__" = some (some (.ref 171))
  initT : typeIn (kfr T) (.ref 171) = some (.type "function")
  initF : FnIs (T.get 16) (T.get 15) (initS w) [] 170
  setat : findIn (kfr T) (.ref 215) "__setattr__" = some (some (.builtin "object.__setattr__"))
  plain : plainOver (kfr T) 215 = true
  taker : takerIn (kfr T) 215 "obj" = some (some (.ref 216))
  descT : typeIn (kfr T) (.ref 216) = some (.type "member_descriptor")
  slot : slotIn (kfr T) 216 215 = some 0
  lt : findIn (kfr T) (.ref 215) "__lt__" = some (some (.ref 179))
  ltT : typeIn (kfr T) (.ref 179) = some (.type "function")
  ltF : FnIs (T.get 24) (T.get 23) (ltS w) [(sMycmp, 156)] 178
  getat : findIn (kfr T) (.ref 215) "__getattribute__" = some (some (.builtin "object.__getattribute__"))
  getaa : findIn (kfr T) (.ref 215) "__getattr__" = some none
  obj : ∀ od, findObj (kfr T) 215 od "obj" = some (.bind (.builtin "member_descriptor.__get__") (.ref 216))
/-- what follows cmp_to_key's call -/
noncomputable def KEnds (w : World) (h : Heap) (d : Drawn) (os : OsState) (Q : Value → Shared → Prop) : Prop := ∀ h' T tk', h'.objs.size = 219 → (∀ i o, T.get i = some o → h'.get? (155 + i) = some o) → KGood w T → (∀ b o, h.get? b = some o → b ≠ 53 → h'.get? b = some o) → (∃ vs, h'.get? 53 = some (tabObj vs)) → Q (.ref 215) ⟨h', #[], d, tk', os⟩
theorem zEnd {h h' : Heap} {d : Drawn} {os : OsState} {Q : Value → Shared → Prop} {V : XV} {T : BT} {m tk' n : Nat} {ch : Ch} {v : Value} {ok : Value → Prop} (D : Rep V h' T m ch) (H : ∀ v h' tk', h'.objs.size = n → (∀ b o, h.get? b = some o → h'.get? b = some o) → ok v → Q v ⟨h', #[], d, tk', os⟩)
    (e : (V.n₁ + m, V.h₀, ch) = (n, h, [])) (e5 : ok v) : Q v ⟨h', #[], d, tk', os⟩ := by
  cases e
  exact H v h' tk' D.size (fun b o e => D.keep b o e rfl) e5
theorem kEnd {w : World} {h h' : Heap} {d : Drawn} {os : OsState} {Q : Value → Shared → Prop} {V : XV} {T : BT} {m tk' : Nat} {ch : Ch} (D : Rep V h' T m ch) (H : KEnds w h d os Q) (e : (V.n₁, V.h₀, m) = (155, h, 64)) (e4 : ∀ b, b ≠ 53 → chLook ch b = none) (e6 : (chLook ch 53).isSome = true) (e5 : KGood w T) :
    Q (.ref 215) ⟨h', #[], d, tk', os⟩ := by
  have e1 : V.n₁ = 155 := congrArg (·.1) e
  have e2 : V.h₀ = h := congrArg (·.2.1) e
  have e3 : m = 64 := congrArg (·.2.2) e
  subst e2
  refine H h' T tk' (by rw [D.size, e1, e3]) (fun i o e => ?_) e5 (fun b o e n => D.keep b o e (e4 b n)) (let ⟨vs, q⟩ := Option.isSome_iff_exists.mp e6; ⟨vs, (D.ch 53 vs q).1⟩)
  have := (D.own i o e).2
  rw [e1] at this
  exact this
theorem ch_one {vs : Array Value} : ∀ b, b ≠ 53 → chLook [(53, vs)] b = none := fun b n => by
  show (match Nat.beq 53 b with | true => some vs | false => none) = none
  rw [BT.beq_eq, decide_eq_false (Ne.symm n)]
section
local macro_rules | `(tactic| exfalso) => `(tactic| (suffices hx9 : (0 : Int) < 1 by first
  | (refine zEnd (by assumption) (by assumption) (by kernel_rfl!) ?_; first | exact ⟨_, rfl⟩ | exact ⟨_, _, rfl, by omega⟩)
  | (refine kEnd (by assumption) (by assumption) (by kernel_rfl!) ch_one (by kernel_rfl!) ?_; constructor <;> first | kernel_rfl! | (constructor <;> kernel_rfl!) | (intro _; kernel_rfl!))))
theorem sum2 {w : World} {h : Heap} {g : Array GenState} {d : Drawn} {tk : Nat} {os : OsState} {env : Env} {Q E : Value → Shared → Prop} {a b : Int} {t u : Tok} (hs : h.objs.size = 132) (ZH : KT.Holds h 1 0 (mkB.ktop_249 w.params)) (hg : g = #[])
  (hl : h.get? 131 = some { cls := .type "list", data := .seq #[.int a t, .int b u] }) (H : ∀ v h' tk', h'.objs.size = 136 → (∀ b o, h.get? b = some o → h'.get? b = some o) → (∃ x t, v = .int x t ∧ x = a + b) → Q v ⟨h', #[], d, tk', os⟩) :
  wpAny (model pg w) (callerA.deeper env) (call (.builtin "sum") [.ref 131]) Q E ⟨h, g, d, tk, os⟩ := by
  z_run
theorem sum1 {w : World} {h : Heap} {g : Array GenState} {d : Drawn} {tk : Nat} {os : OsState} {env : Env} {Q E : Value → Shared → Prop} {a : Int} {t : Tok} (hs : h.objs.size = 132) (ZH : KT.Holds h 1 0 (mkB.ktop_249 w.params)) (hg : g = #[])
  (hl : h.get? 131 = some { cls := .type "list", data := .seq #[.int a t] }) (H : ∀ v h' tk', h'.objs.size = 136 → (∀ b o, h.get? b = some o → h'.get? b = some o) → (∃ x t, v = .int x t ∧ x = a) → Q v ⟨h', #[], d, tk', os⟩) :
  wpAny (model pg w) (callerA.deeper env) (call (.builtin "sum") [.ref 131]) Q E ⟨h, g, d, tk, os⟩ := by
  z_run
theorem sum0 {w : World} {h : Heap} {g : Array GenState} {d : Drawn} {tk : Nat} {os : OsState} {env : Env} {Q E : Value → Shared → Prop} (hs : h.objs.size = 132) (ZH : KT.Holds h 1 0 (mkB.ktop_249 w.params)) (hg : g = #[])
  (hl : h.get? 131 = some { cls := .type "list", data := .seq #[] }) (H : ∀ v h' tk', h'.objs.size = 136 → (∀ b o, h.get? b = some o → h'.get? b = some o) → (∃ x t, v = .int x t ∧ x = 0) → Q v ⟨h', #[], d, tk', os⟩) :
  wpAny (model pg w) (callerA.deeper env) (call (.builtin "sum") [.ref 131]) Q E ⟨h, g, d, tk, os⟩ := by
  z_run
theorem bytes2 {w : World} {h : Heap} {g : Array GenState} {d : Drawn} {tk : Nat} {os : OsState} {env : Env} {Q E : Value → Shared → Prop} {x y : Int} {t u : Tok} (hs : h.objs.size = 137) (ZH : KT.Holds h 1 0 (mkB.ktop_249 w.params)) (hg : g = #[])
  (hx0 : 0 ≤ x) (hx1 : x < 256) (hy0 : 0 ≤ y) (hy1 : y < 256)
  (hl : h.get? 136 = some { cls := .type "list", data := .seq #[.int x t, .int y u] }) (H : ∀ v h' tk', h'.objs.size = 141 → (∀ b o, h.get? b = some o → h'.get? b = some o) → (∃ t, v = .bytes #[x.toNat.toUInt8, y.toNat.toUInt8] t) → Q v ⟨h', #[], d, tk', os⟩) :
  wpAny (model pg w) (callerA.deeper env) (call (.type "bytes") [.ref 136]) Q E ⟨h, g, d, tk, os⟩ := by
  z_run
theorem cmpKey {w : World} {h : Heap} {g : Array GenState} {d : Drawn} {tk : Nat} {os : OsState} {env : Env} {Q E : Value → Shared → Prop} (hs : h.objs.size = 155) (ZH : KT.Holds h 1 0 (mkB.ktop_249 w.params)) (hg : g = #[]) (H : KEnds w h d os Q) :
  wpAny (model pg w) (callerA.deeper env) (call (.ref 58) [.ref 154]) Q E ⟨h, g, d, tk, os⟩ := by
  z_run
end
end Mine
end
section
open PySem PySem.W PySem.W.X PyProof.Rows
set_option maxRecDepth 100000
set_option maxHeartbeats 1000000
namespace Mine
noncomputable abbrev sPlaces : Str := ⟨⟨[112, 108, 97, 99, 101, 115]⟩⟩
section
variable {w : World} {A : Around} {s : Shared} {Q E : Value → Shared → Prop}
theorem lamGap {q cp d : Addr} {al : List UInt8} {ds es : List Nat} {t u : Tok} (G : Gd w s.heap) (Lm : Lam s.heap q (lam1 w) [(sPlaces, cp)]) (C : Cl s.heap cp (.ref d)) (P : Pl w s.heap d al) (hroom : A.depth + 1 < recursionLimit) (hh : A.handled = none) (hn : ds.length ≤ 6) (hl : ds.length = es.length)
    (h1 : ∀ x ∈ ds, x < 64) (h2 : ∀ x ∈ es, x < 64) (h : ∀ h' tk t', Kp s.heap h' → Q (.int (gapf ds es) t') (sh s h' tk)) :
    wpAny (MM w) A (call (.ref q) [.bytes (sg al ds).toArray t, .bytes (sg al es).toArray u]) Q E s := by
  obtain ⟨_, nm, qual, pm, c', ctv, _, ho, hc⟩ := Lm
  refine enterE G (by omega) ho rfl hc rfl (BindsTo.of_eq rfl) (noCells (by kernel_rfl!)) (locs rfl) rfl rfl rfl ?_
  intro h₁ tk S
  refine Call_ ?_
  refine nameG S.gd rfl rfl rfl rfl (v := .ref 95) (by kernel_rfl!) ?_
  refine callWith_def (o := mk.zo_96 w.params) rfl (spliced_more ?_)
  refine nameF rfl rfl rfl (C.kp S.kp).2 rfl rfl (spliced_more ?_)
  refine nameL S rfl rfl rfl rfl rfl (spliced_more (nameL S rfl rfl rfl rfl rfl (spliced_none ⟨S.gd 95 _ rfl (by decide), ?_⟩)))
  exact gap (s := sh s h₁ tk) S.gd (P.kp S.kp) hroom hh hn hl h1 h2 fun h' tk' t' k => h _ _ _ (S.kp.trans k)
end
end Mine
end
section
open PySem PySem.W PySem.W.X PyProof.Rows
set_option maxRecDepth 100000
set_option maxHeartbeats 1000000
namespace Mine
/-- the class K stands -/
structure IsK (w : World) (T : BT) (h : Heap) : Prop where
  good : KGood w T
  own : ∀ i o, T.get i = some o → h.get? (155 + i) = some o
section
variable {w : World} {T : BT} {h h' : Heap}
theorem IsK.kp (I : IsK w T h) (k : Kp h h') : IsK w T h' := ⟨I.good, fun i o e => k.at_ _ _ (I.own i o e) (not_tab (by show 125 ≤ 155 + i; omega))⟩
theorem IsK.in_ (I : IsK w T h) : (kfr T).In h := kAt_in I.own _ (by decide)
theorem IsK.cell (I : IsK w T h) : Cl h 156 (.ref 154) := by
  refine ⟨by decide, ?_⟩
  have c := I.good.cell
  unfold cellV at c
  split at c
  · rename_i q
    exact ⟨_, I.own 1 _ q, by rw [c]⟩
  · cases c
theorem FnIs.code {f c : Option Obj} {st : Stmt} {cl : List (Str × Addr)} {ca : Addr} {i : Nat} (I : IsK w T h) (F : FnIs f c st cl ca) (hc : c = T.get i) (hca : ca = 155 + i) : h.CodeRec (.ref ca) (fdOf f).qualname := by
  obtain ⟨o, vs, t, e1, e2, e3⟩ := codeQ_of F.2
  rw [hc] at e1
  exact ⟨ca, o, vs, t, rfl, hca ▸ I.own i o e1, e2, e3⟩
end
/-- an object of class K -/
noncomputable abbrev kin (v : Value) (dx : Addr) : Obj := { cls := .ref 215, dict := some dx, data := .plain, slots := #[some v] }
section
variable {w : World} {A : Around} {s : Shared} {Q E : Value → Shared → Prop} {T : BT}
theorem makeK {v : Value} (G : Gd w s.heap) (I : IsK w T s.heap) (hroom : A.depth + 1 < recursionLimit)
    (h : ∀ h' tk x dx, Kp s.heap h' → h'.get? x = some (kin v dx) → h'.get? dx = some emptyDict → s.heap.objs.size ≤ x → s.heap.objs.size ≤ dx → Q (.ref x) (sh s h' tk)) : wpAny (MM w) A (call (.ref 215) [v]) Q E s := by
  obtain ⟨hp, g, d, t, os⟩ := s
  refine wpAny_call (make_core (makes_of I.in_ I.good.makes) (looks_findIn I.in_ I.good.init) (fun self => bind_fn I.in_ self I.good.initT) (.inl rfl) ?_)
  have k0 : Kp hp ((hp.push emptyDict).push (instObj 215 hp.objs.size)) := (Kp.push _ _).trans (Kp.push _ _)
  have I0 := I.kp k0
  have G0 := G.kp k0
  have hf := I0.good.initF
  have ho := I0.own 16 _ hf.1
  refine codeAny_call_def (by rw [depth_under_kw]; exact hroom) ho rfl G0.lim (hf.code I0 rfl rfl) rfl (BindsTo.of_eq rfl) (noCells (by kernel_rfl!)) (locs rfl) (fun h₁ hn hk => ?_)
  have hsz : ((hp.push emptyDict).push (instObj 215 hp.objs.size)).objs.size = hp.objs.size + 2 := by rw [size_push', size_push']
  have F : Fr hp _ h₁ _ := ⟨hn, fun b o e => hk b o (Heap.get?_push_of_some _ (Heap.get?_push_of_some _ e)), by rw [hsz]; exact Nat.le_add_right ..⟩
  have S : St w hp _ _ [] h₁ := ⟨hn, Kp.of F.keep, G, fun _ hp => (nomatch hp), F.above⟩
  have x0 : ((hp.push emptyDict).push (instObj 215 hp.objs.size)).get? (hp.objs.size + 1) = some (instObj 215 hp.objs.size) := by
    have := Heap.get?_push_size (hp.push emptyDict) (o := instObj 215 hp.objs.size) rfl
    rw [size_push'] at this
    exact this
  have d0 : ((hp.push emptyDict).push (instObj 215 hp.objs.size)).get? hp.objs.size = some emptyDict := Heap.get?_push_of_some _ (Heap.get?_push_size _ rfl)
  have N : News hp ((hp.push emptyDict).push (instObj 215 hp.objs.size)).objs.size h₁ ([] ++ (hp.objs.size + 1, instObj 215 hp.objs.size) :: [(hp.objs.size, emptyDict)]) := by
    intro p hp'
    rcases List.mem_cons.mp hp' with rfl | hp'
    · exact ⟨hk _ _ x0, by rw [hsz]; exact Nat.ne_of_lt (Nat.lt_succ_self _), Heap.get?_none_of_le (Nat.le_succ _)⟩
    · rw [List.mem_singleton.mp hp']
      exact ⟨hk _ _ d0, by rw [hsz]; exact Nat.ne_of_lt (Nat.lt_add_of_pos_right (by decide)), Heap.get?_none_of_le (Nat.le_refl _)⟩
  have I1 : IsK w T h₁ := I.kp S.kp
  have X : InstAt h₁ (hp.objs.size + 1) (instObj 215 hp.objs.size) 215 (some emptyDict) := ⟨hk _ _ x0, rfl, rfl, hk _ _ d0⟩
  refine wpAny_execs_cons (plainObj_wpAny_Assign_Attribute ?_)
  refine nameL S rfl rfl rfl rfl rfl (nameL S rfl rfl rfl rfl rfl ?_)
  refine set_plain I1.in_ X I1.good.setat ?_
  refine osa_descr KF.slot_mset I1.in_ X I1.good.plain I1.good.taker I1.good.descT ?_
  refine slot_set F N I1.in_ X I1.good.slot (by decide) (fun _ q => nomatch q) (fun p q => ?_) rfl rfl (fun h' F' N' => ?_)
  · rw [List.mem_singleton.mp q]; exact Nat.ne_of_lt (Nat.lt_succ_self _)
  · refine wpAny_execs_nil ⟨rfl, ?_⟩
    exact h h' _ (hp.objs.size + 1) hp.objs.size (Kp.of F'.keep) (N' _ (List.Mem.head _)).1 (N' _ (List.Mem.tail _ (List.Mem.head _))).1 (Nat.le_succ _) (Nat.le_refl _)
end
end Mine
end
section
open PySem PySem.W PySem.W.X PyProof.Rows
set_option maxRecDepth 100000
set_option maxHeartbeats 1000000
namespace Mine
/-- an object of K at x holds v -/
noncomputable def KAt (h : Heap) (x : Addr) (v : Value) : Prop := x ∉ tabs ∧ ∃ dx, dx ∉ tabs ∧ h.get? x = some (kin v dx) ∧ h.get? dx = some emptyDict
theorem KAt.kp {h h' : Heap} {x : Addr} {v : Value} (z : KAt h x v) (k : Kp h h') : KAt h' x v :=
  let ⟨n, dx, n', a, b⟩ := z
  ⟨n, dx, n', k.at_ _ _ a n, k.at_ _ _ b n'⟩
theorem KAt.inst {h : Heap} {x : Addr} {v : Value} (z : KAt h x v) : ∃ dx od, InstAt h x (kin v dx) 215 od :=
  let ⟨_, dx, _, a, b⟩ := z
  ⟨dx, some emptyDict, a, rfl, rfl, b⟩
section
variable {w : World} {A : Around} {s : Shared} {Q E : Value → Shared → Prop} {T : BT}
theorem getObj {x : Addr} {b : Array UInt8} {t : Tok} {ex : Bool} (I : IsK w T s.heap) (Z : KAt s.heap x (.bytes b t)) (h : ∀ tk, Q (.bytes b t) { s with toks := tk }) : wpAny (MM w) A (getAttr (.ref x) "obj" ex) Q E s := by
  obtain ⟨dx, od, X⟩ := Z.inst
  refine get_bind I.in_ X I.good.getat (I.good.obj od) I.good.getaa (wpAny_call ?_)
  exact slot_get (s := { s with toks := s.toks + 1 }) I.in_ X I.good.slot rfl (wpAny_pure (h _))
/-- the two instances' comparison -/
theorem ltCall {x y cp d : Addr} {al : List UInt8} {ds es : List Nat} {t u : Tok} (G : Gd w s.heap) (I : IsK w T s.heap) (Zx : KAt s.heap x (.bytes (sg al ds).toArray t)) (Zy : KAt s.heap y (.bytes (sg al es).toArray u))
    (Lm : Lam s.heap 154 (lam1 w) [(sPlaces, cp)]) (C : Cl s.heap cp (.ref d)) (P : Pl w s.heap d al) (hroom : A.depth + 2 < recursionLimit) (hh : A.handled = none) (hn : ds.length ≤ 6) (hl : ds.length = es.length)
    (h1 : ∀ x ∈ ds, x < 64) (h2 : ∀ x ∈ es, x < 64) (h : ∀ h' tk, Kp s.heap h' → Q (.bool (decide (gapf ds es < 0))) (sh s h' tk)) :
    wpAny (MM w) A (call (.ref 179) [.ref x, .ref y]) Q E s := by
  have hf := I.good.ltF
  refine enter G (by omega) (I.own 24 _ hf.1) rfl (hf.code I rfl rfl) rfl (BindsTo.of_eq rfl) (noCells (by kernel_rfl!)) (locs rfl) ?_
  intro h₁ tk S
  have I1 := I.kp S.kp
  refine wpAny_execs_cons (wpAny_Return_some (wpAny_Compare1 (Call_ ?_)))
  refine nameF rfl rfl rfl I1.cell.2 rfl rfl ?_
  obtain ⟨_, nm, qual, pm, c', ctv, _, ho, hc⟩ := id Lm
  refine callWith_def (o := kla_obj nm qual (lamP (lam1 w)) (lamB (lam1 w)) (lamS (lam1 w)) [(sPlaces, cp)] pm c' ctv) rfl (spliced_more (Attribute_name ?_))
  refine nameL S rfl rfl rfl rfl rfl (getObj (s := sh s h₁ _) I1 (Zx.kp S.kp) fun tk => spliced_more (Attribute_name ?_))
  refine nameL (s := sh s h₁ _) S rfl rfl rfl rfl rfl (getObj (s := sh s h₁ _) I1 (Zy.kp S.kp) fun tk => spliced_none ⟨S.old ho (by decide), ?_⟩)
  refine lamGap (s := sh s h₁ _) S.gd (Lm.kp S.kp) (C.kp S.kp) (P.kp S.kp) hroom hh hn hl h1 h2 fun h' tk' t' k => ?_
  refine cI (ltI ?_)
  exact h _ _ (S.kp.trans k)
theorem ltKey {x y cp d : Addr} {al : List UInt8} {ds es : List Nat} {t u : Tok} {Q : Bool → Shared → Prop} (G : Gd w s.heap) (I : IsK w T s.heap) (Zx : KAt s.heap x (.bytes (sg al ds).toArray t)) (Zy : KAt s.heap y (.bytes (sg al es).toArray u))
    (Lm : Lam s.heap 154 (lam1 w) [(sPlaces, cp)]) (C : Cl s.heap cp (.ref d)) (P : Pl w s.heap d al) (hroom : A.depth + 2 < recursionLimit) (hu : A.units < cLine) (hh : A.handled = none) (hn : ds.length ≤ 6) (hl : ds.length = es.length)
    (h1 : ∀ x ∈ ds, x < 64) (h2 : ∀ x ∈ es, x < 64) (h : ∀ h' tk, Kp s.heap h' → Q (decide (gapf ds es < 0)) (sh s h' tk)) :
    wpAny (MM w) A (keyLt' oneType' (.ref x) (.ref y)) Q E s := by
  obtain ⟨dx, od, X⟩ := Zx.inst
  rw [keyLt'_oneType, oneLt'_eq]
  simp only [if_true]
  refine wpAny_bind (wpAny_cRoomFor hu ?_)
  refine wpAny_bind (ifBound_K I.in_ X I.good.lt (by unfold isFn; rw [I.good.ltT]; rfl) (ltCall G I Zx Zy Lm C P hroom hh hn hl h1 h2 fun h' tk k => ?_))
  exact wpAny_truthy_bool (h _ _ k)
end
end Mine
end
section
open PySem PySem.W PySem.W.X PyProof.Rows
set_option maxRecDepth 100000
set_option maxHeartbeats 4000000
namespace Mine
/-! sorting two or three keys whose comparison changes the state -/
noncomputable def wpI (M : Model) (A : Around) (E : Value → Shared → Prop) (I : Shared → Prop) {α : Type} (m : StateT SortSt Sem α) (Q : α → SortSt → Prop) (st : SortSt) : Prop :=
  ∀ s, I s → wpAny M A (m.run st) (fun r s' => I s' ∧ Q r.1 r.2) E s
section
variable {M : Model} {A : Around} {E : Value → Shared → Prop} {I : Shared → Prop} {α β : Type} {st : SortSt}
theorem wpI_pure {a : α} {Q : α → SortSt → Prop} (h : Q a st) : wpI M A E I (pure a : StateT SortSt Sem α) Q st := fun s hs => by
  rw [StateT.run_pure]; exact wpAny_pure ⟨hs, h⟩
theorem wpI_bind {m : StateT SortSt Sem α} {f : α → StateT SortSt Sem β} {Q : β → SortSt → Prop} (h : wpI M A E I m (fun a st' => wpI M A E I (f a) Q st') st) : wpI M A E I (m >>= f) Q st := fun s hs => by
  rw [StateT.run_bind]
  exact wpAny_bind (wpAny_mono (h s hs) (fun r s' h' => h'.2 s' h'.1) fun _ _ e => e)
theorem wpI_get {Q : SortSt → SortSt → Prop} (h : Q st st) : wpI M A E I (get : StateT SortSt Sem SortSt) Q st := fun s hs => by
  rw [StateT.run_get]; exact wpAny_pure ⟨hs, h⟩
theorem wpI_modify {f : SortSt → SortSt} {Q : PUnit → SortSt → Prop} (h : Q ⟨⟩ (f st)) : wpI M A E I (modify f : StateT SortSt Sem PUnit) Q st := fun s hs => by
  rw [StateT.run_modify]; exact wpAny_pure ⟨hs, h⟩
theorem wpI_rule {tag : String} {Q : Unit → SortSt → Prop} (h : Q () st) : wpI M A E I (liftM (rule tag) : StateT SortSt Sem Unit) Q st := fun s hs => by
  show wpAny M A ((StateT.lift (rule tag) : StateT SortSt Sem Unit).run st) _ E s
  rw [StateT.run_lift]
  exact wpAny_bind (wpAny_rule (wpAny_pure ⟨hs, h⟩))
theorem wpI_nil {f : Nat → β → StateT SortSt Sem (ForInStep β)} {c : β} {Q : β → SortSt → Prop} (h : Q c st) : wpI M A E I (forIn ([] : List Nat) c f) Q st := by
  rw [List.forIn_nil]; exact wpI_pure h
theorem wpI_cons {f : Nat → β → StateT SortSt Sem (ForInStep β)} {x : Nat} {l : List Nat} {c : β} {Q : β → SortSt → Prop}
    (h : wpI M A E I (f x c) (fun r st' => wpI M A E I (match r with | .done b => pure b | .yield b => forIn l b f) Q st') st) : wpI M A E I (forIn (x :: l) c f) Q st := by
  rw [List.forIn_cons]; exact wpI_bind h
theorem wpI_range {f : Nat → β → StateT SortSt Sem (ForInStep β)} {a b : Nat} {l : List Nat} {c : β} {Q : β → SortSt → Prop} (hl : List.range' a (b - a) 1 = l) (h : wpI M A E I (forIn l c f) Q st) : wpI M A E I (forIn [a:b] c f) Q st := forRange c f hl ▸ h
/-- the comparison by ranks -/
noncomputable def Cmp (M : Model) (A : Around) (E : Value → Shared → Prop) (I : Shared → Prop) (rk : Value → Int) (ks : List Value) : Prop :=
  ∀ p ∈ ks, ∀ q ∈ ks, ∀ s, I s → wpAny M A (keyLt' oneType' p q) (fun b s' => I s' ∧ b = decide (rk p < rk q)) (fun _ _ => False) s
theorem wpI_ltAt {rk : Value → Int} {ks : List Value} {i j : Nat} {p q : Keyed} {Q : Option Bool → SortSt → Prop} (C : Cmp M A E I rk ks) (hk : kindOf st = oneType') (hi : (arrOf st)[i]? = some p) (hj : (arrOf st)[j]? = some q) (mp : p.1 ∈ ks) (mq : q.1 ∈ ks)
    (h1 : rk p.1 < rk q.1 → Q (some true) st) (h2 : ¬ rk p.1 < rk q.1 → Q (some false) st) : wpI M A E I (ltAt' i j) Q st := by
  rw [ltAt'_eq]
  refine wpI_bind (wpI_get ?_)
  show wpI _ _ _ _ (do let x ← elem' (arrOf st) i; let y ← elem' (arrOf st) j; lt' x y) Q st
  rw [elem'_eq, elem'_eq, hi, hj]
  refine wpI_bind (wpI_pure (wpI_bind (wpI_pure ?_)))
  rw [lt'_eq]
  refine wpI_bind (wpI_get ?_)
  rw [hk]
  refine wpI_bind (α := Except Value Bool) ?_
  intro s hs
  show wpAny M A ((StateT.lift ((keyLt' oneType' p.1 q.1).attempt) : StateT SortSt Sem _).run st) _ E s
  rw [StateT.run_lift]
  refine wpAny_bind (wpAny_attempt (wpAny_mono (C _ mp _ mq s hs) (fun b s' hb => wpAny_pure ⟨hb.1, ?_⟩) fun _ _ x => x.elim))
  rw [hb.2]
  by_cases z : rk p.1 < rk q.1
  · rw [decide_eq_true z]; exact wpI_pure (h1 z)
  · rw [decide_eq_false z]; exact wpI_pure (h2 z)
end
section
variable {M : Model} {A : Around} {E : Value → Shared → Prop} {I : Shared → Prop} {rk : Value → Int}
noncomputable abbrev st0 (a : Array Keyed) : SortSt := SortSt.mk' oneType' a #[] 7 none
theorem cr2 {p q : Keyed} {Q : Option Nat → SortSt → Prop} (C : Cmp M A E I rk [p.1, q.1]) (h1 : ¬ rk q.1 < rk p.1 → Q (some 2) (st0 #[p, q])) (h2 : rk q.1 < rk p.1 → Q (some 2) (st0 #[q, p])) : wpI M A E I (countRun' 0 2) Q (st0 #[p, q]) := by
  rw [countRun'_eq]
  refine wpI_bind (wpI_range (l := [1]) rfl (wpI_cons (wpI_bind (wpI_ltAt C (p := q) (q := p) rfl rfl rfl (by simp) (by simp) (fun z => ?_) fun z => ?_))))
  · refine wpI_pure (wpI_pure ?_)
    refine wpI_bind (wpI_rule ?_)
    refine wpI_bind (wpI_range (l := []) rfl (wpI_nil ?_))
    refine wpI_bind (wpI_modify ?_)
    refine wpI_bind (wpI_range (l := []) rfl (wpI_nil ?_))
    exact wpI_pure (h2 z)
  · refine wpI_pure (wpI_nil ?_)
    exact wpI_pure (h1 z)
theorem cr3 {a b c : Keyed} {Q : Option Nat → SortSt → Prop} (C : Cmp M A E I rk [a.1, b.1, c.1])
    (h1 : ¬ rk b.1 < rk a.1 → ¬ rk c.1 < rk b.1 → Q (some 3) (st0 #[a, b, c]))
    (h2 : ¬ rk b.1 < rk a.1 → rk c.1 < rk b.1 → rk a.1 < rk b.1 → Q (some 2) (st0 #[a, b, c]))
    (h3 : ¬ rk b.1 < rk a.1 → rk c.1 < rk b.1 → ¬ rk a.1 < rk b.1 → Q (some 3) (st0 #[c, a, b]))
    (h4 : rk b.1 < rk a.1 → rk c.1 < rk b.1 → Q (some 3) (st0 #[c, b, a]))
    (h5 : rk b.1 < rk a.1 → rk b.1 < rk c.1 → rk c.1 < rk a.1 → Q (some 2) (st0 #[b, a, c]))
    (h6 : rk b.1 < rk a.1 → rk b.1 < rk c.1 → ¬ rk c.1 < rk a.1 → Q (some 3) (st0 #[b, a, c]))
    (h7 : rk b.1 < rk a.1 → ¬ rk c.1 < rk b.1 → ¬ rk b.1 < rk c.1 → Q (some 3) (st0 #[b, c, a])) : wpI M A E I (countRun' 0 3) Q (st0 #[a, b, c]) := by
  rw [countRun'_eq]
  refine wpI_bind (wpI_range (l := [1, 2]) rfl (wpI_cons (wpI_bind (wpI_ltAt C (p := b) (q := a) rfl rfl rfl (by simp) (by simp) (fun z => ?_) fun z => ?_))))
  · refine wpI_pure (wpI_pure ?_)
    refine wpI_bind (wpI_rule ?_)
    refine wpI_bind (wpI_range (l := [2]) rfl (wpI_cons (wpI_bind (wpI_ltAt C (p := c) (q := b) rfl rfl rfl (by simp) (by simp) (fun y => ?_) fun y => ?_))))
    · refine wpI_pure (wpI_nil ?_)
      refine wpI_bind (wpI_modify ?_)
      refine wpI_bind (wpI_range (l := []) rfl (wpI_nil ?_))
      exact wpI_pure (h4 z y)
    · refine wpI_bind (wpI_ltAt C (p := b) (q := c) rfl rfl rfl (by simp) (by simp) (fun x => ?_) fun x => ?_)
      · refine wpI_pure (wpI_pure ?_)
        refine wpI_bind (wpI_modify ?_)
        refine wpI_bind (wpI_range (l := [2]) rfl (wpI_cons (wpI_bind (wpI_ltAt C (p := c) (q := a) rfl rfl rfl (by simp) (by simp) (fun u => ?_) fun u => ?_))))
        · exact wpI_pure (wpI_pure (wpI_pure (h5 z x u)))
        · exact wpI_pure (wpI_nil (wpI_pure (h6 z x u)))
      · refine wpI_pure (wpI_nil ?_)
        refine wpI_bind (wpI_modify ?_)
        refine wpI_bind (wpI_modify ?_)
        refine wpI_bind (wpI_range (l := []) rfl (wpI_nil ?_))
        exact wpI_pure (h7 z y x)
  · refine wpI_pure (wpI_cons (wpI_bind (wpI_ltAt C (p := c) (q := b) rfl rfl rfl (by simp) (by simp) (fun y => ?_) fun y => ?_)))
    · refine wpI_pure (wpI_pure ?_)
      refine wpI_bind (wpI_ltAt C (p := a) (q := b) rfl rfl rfl (by simp) (by simp) (fun x => ?_) fun x => ?_)
      · exact wpI_pure (h2 z y x)
      · refine wpI_bind (wpI_modify ?_)
        refine wpI_bind (wpI_rule ?_)
        refine wpI_bind (wpI_range (l := []) rfl (wpI_nil ?_))
        refine wpI_bind (wpI_modify ?_)
        refine wpI_bind (wpI_range (l := []) rfl (wpI_nil ?_))
        exact wpI_pure (h3 z y x)
    · refine wpI_pure (wpI_nil ?_)
      exact wpI_pure (h1 z y)
theorem bs3 {a b c : Keyed} {Q : Bool → SortSt → Prop} (C : Cmp M A E I rk [a.1, b.1, c.1]) (hc : rk c.1 < rk b.1)
    (h1 : rk c.1 < rk a.1 → Q true (st0 #[c, a, b])) (h2 : ¬ rk c.1 < rk a.1 → Q true (st0 #[a, c, b])) : wpI M A E I (binarySort' 0 3 2) Q (st0 #[a, b, c]) := by
  rw [binarySort'_eq]
  refine wpI_bind (wpI_range (l := [2]) rfl (wpI_cons ?_))
  refine wpI_bind (wpI_range (l := [0, 1]) rfl (wpI_cons (wpI_bind (wpI_ltAt C (p := c) (q := b) rfl rfl rfl (by simp) (by simp) (fun z => ?_) fun z => absurd hc z))))
  refine wpI_pure (wpI_cons (wpI_bind (wpI_ltAt C (p := c) (q := a) rfl rfl rfl (by simp) (by simp) (fun y => ?_) fun y => ?_)))
  · refine wpI_pure (wpI_nil ?_)
    refine wpI_bind (wpI_modify (wpI_pure (wpI_nil (wpI_pure (h1 y)))))
  · refine wpI_pure (wpI_nil ?_)
    refine wpI_bind (wpI_modify (wpI_pure (wpI_nil (wpI_pure (h2 y)))))
theorem sort2 {p q : Keyed} {Q : Unit → SortSt → Prop} (C : Cmp M A E I rk [p.1, q.1])
    (h1 : ¬ rk q.1 < rk p.1 → ∀ st, arrOf st = #[p, q] → failedOf st = none → Q () st) (h2 : rk q.1 < rk p.1 → ∀ st, arrOf st = #[q, p] → failedOf st = none → Q () st) :
    wpI M A E I sortRuns' Q (st0 #[p, q]) := by
  rw [sortRuns'_eq]
  refine wpI_bind (wpI_get ?_)
  refine wpI_bind (wpI_range (l := [0, 1]) rfl (wpI_cons (wpI_bind (cr2 C (fun z => ?_) fun z => ?_))))
  · refine wpI_bind (wpI_get (wpI_bind (wpI_modify (wpI_pure (wpI_cons (wpI_pure (wpI_pure ?_)))))))
    refine wpI_bind (wpI_range (l := [0, 1]) rfl (wpI_cons (wpI_bind (wpI_get (wpI_pure (wpI_pure (wpI_pure ?_)))))))
    exact h1 z _ rfl rfl
  · refine wpI_bind (wpI_get (wpI_bind (wpI_modify (wpI_pure (wpI_cons (wpI_pure (wpI_pure ?_)))))))
    refine wpI_bind (wpI_range (l := [0, 1]) rfl (wpI_cons (wpI_bind (wpI_get (wpI_pure (wpI_pure (wpI_pure ?_)))))))
    exact h2 z _ rfl rfl
theorem sort3 {τ : Type} {κ : τ → Keyed} {a b c : τ} {Q : Unit → SortSt → Prop} (C : Cmp M A E I rk [(κ a).1, (κ b).1, (κ c).1])
    (h : ∀ st x y z, arrOf st = #[κ x, κ y, κ z] → failedOf st = none → [x, y, z].Perm [a, b, c] → rk (κ x).1 ≤ rk (κ y).1 → rk (κ y).1 ≤ rk (κ z).1 → Q () st) :
    wpI M A E I sortRuns' Q (st0 #[κ a, κ b, κ c]) := by
  have bc : [a, c, b].Perm [a, b, c] := List.Perm.cons _ (List.Perm.swap ..)
  have ba : [b, a, c].Perm [a, b, c] := List.Perm.swap ..
  have cab : [c, a, b].Perm [a, b, c] := (List.Perm.swap ..).trans bc
  have bca : [b, c, a].Perm [a, b, c] := (List.Perm.cons _ (List.Perm.swap ..)).trans ba
  have cba : [c, b, a].Perm [a, b, c] := (List.Perm.swap ..).trans bca
  rw [sortRuns'_eq]
  refine wpI_bind (wpI_get ?_)
  have fin : ∀ {x y z : τ}, [x, y, z].Perm [a, b, c] → rk (κ x).1 ≤ rk (κ y).1 → rk (κ y).1 ≤ rk (κ z).1 → ∀ st, arrOf st = #[κ x, κ y, κ z] → failedOf st = none → Q () st := fun p u v st e f => h st _ _ _ e f p u v
  refine wpI_bind (wpI_range (l := [0, 1, 2]) rfl (wpI_cons (wpI_bind (cr3 C (fun u v => ?_) (fun u v x => ?_) (fun u v x => ?_) (fun u v => ?_) (fun u v x => ?_) (fun u v x => ?_) (fun u v x => ?_)))))
  · refine wpI_bind (wpI_get (wpI_bind (wpI_modify (wpI_pure (wpI_cons (wpI_pure (wpI_pure ?_)))))))
    refine wpI_bind (wpI_range (l := [0, 1, 2]) rfl (wpI_cons (wpI_bind (wpI_get (wpI_pure (wpI_pure (wpI_pure ?_)))))))
    exact fin (List.Perm.refl _) (by omega) (by omega) _ rfl rfl
  · refine wpI_bind (wpI_rule (wpI_bind (bs3 C v (fun y => ?_) fun y => ?_)))
    · refine wpI_bind (wpI_get (wpI_bind (wpI_modify (wpI_pure (wpI_cons (wpI_pure (wpI_pure ?_)))))))
      refine wpI_bind (wpI_range (l := [0, 1, 2]) rfl (wpI_cons (wpI_bind (wpI_get (wpI_pure (wpI_pure (wpI_pure ?_)))))))
      exact fin cab (by omega) (by omega) _ rfl rfl
    · refine wpI_bind (wpI_get (wpI_bind (wpI_modify (wpI_pure (wpI_cons (wpI_pure (wpI_pure ?_)))))))
      refine wpI_bind (wpI_range (l := [0, 1, 2]) rfl (wpI_cons (wpI_bind (wpI_get (wpI_pure (wpI_pure (wpI_pure ?_)))))))
      exact fin bc (by omega) (by omega) _ rfl rfl
  · refine wpI_bind (wpI_get (wpI_bind (wpI_modify (wpI_pure (wpI_cons (wpI_pure (wpI_pure ?_)))))))
    refine wpI_bind (wpI_range (l := [0, 1, 2]) rfl (wpI_cons (wpI_bind (wpI_get (wpI_pure (wpI_pure (wpI_pure ?_)))))))
    exact fin cab (by omega) (by omega) _ rfl rfl
  · refine wpI_bind (wpI_get (wpI_bind (wpI_modify (wpI_pure (wpI_cons (wpI_pure (wpI_pure ?_)))))))
    refine wpI_bind (wpI_range (l := [0, 1, 2]) rfl (wpI_cons (wpI_bind (wpI_get (wpI_pure (wpI_pure (wpI_pure ?_)))))))
    exact fin cba (by omega) (by omega) _ rfl rfl
  · have C' : Cmp M A E I rk [(κ b).1, (κ a).1, (κ c).1] := fun p hp q hq => C p ((List.Perm.swap (κ a).1 (κ b).1 [(κ c).1]).mem_iff.mp hp) q ((List.Perm.swap (κ a).1 (κ b).1 [(κ c).1]).mem_iff.mp hq)
    refine wpI_bind (wpI_rule (wpI_bind (bs3 C' x (fun y => ?_) fun y => ?_)))
    · exact absurd y (by omega)
    · refine wpI_bind (wpI_get (wpI_bind (wpI_modify (wpI_pure (wpI_cons (wpI_pure (wpI_pure ?_)))))))
      refine wpI_bind (wpI_range (l := [0, 1, 2]) rfl (wpI_cons (wpI_bind (wpI_get (wpI_pure (wpI_pure (wpI_pure ?_)))))))
      exact fin bca (by omega) (by omega) _ rfl rfl
  · refine wpI_bind (wpI_get (wpI_bind (wpI_modify (wpI_pure (wpI_cons (wpI_pure (wpI_pure ?_)))))))
    refine wpI_bind (wpI_range (l := [0, 1, 2]) rfl (wpI_cons (wpI_bind (wpI_get (wpI_pure (wpI_pure (wpI_pure ?_)))))))
    exact fin ba (by omega) (by omega) _ rfl rfl
  · refine wpI_bind (wpI_get (wpI_bind (wpI_modify (wpI_pure (wpI_cons (wpI_pure (wpI_pure ?_)))))))
    refine wpI_bind (wpI_range (l := [0, 1, 2]) rfl (wpI_cons (wpI_bind (wpI_get (wpI_pure (wpI_pure (wpI_pure ?_)))))))
    exact fin bca (by omega) (by omega) _ rfl rfl
end
end Mine
end
section
open PySem PySem.W PySem.W.X PyProof.Rows
set_option maxRecDepth 100000
set_option maxHeartbeats 1000000
namespace Mine
/-- a piece as a value -/
noncomputable abbrev pv (al : List UInt8) (p : List Nat × Tok) : Value := .bytes (sg al p.1).toArray p.2
/-- a key's rank, read in the heap -/
noncomputable def rkIn (h : Heap) (al : List UInt8) : Value → Int
  | .ref x => (match h.get? x with
    | some o => (match o.slots.toList with
      | [some (.bytes b _)] => ((vl 64 (b.toList.map al.idxOf) : Nat) : Int)
      | _ => 0)
    | none => 0)
  | _ => 0
/-- law's things stand: the class K, its comparison, the places -/
structure Wd (w : World) (T : BT) (al : List UInt8) (cp d : Addr) (h : Heap) : Prop where
  gd : Gd w h
  k : IsK w T h
  lam : Lam h 154 (lam1 w) [(sPlaces, cp)]
  cl : Cl h cp (.ref d)
  pl : Pl w h d al
  ta : Ta h
  t97 : TbOk 97 h
  t109 : TbOk 109 h
theorem Wd.kp {w : World} {T : BT} {al : List UInt8} {cp d : Addr} {h h' : Heap} (W : Wd w T al cp d h) (k : Kp h h') : Wd w T al cp d h' := ⟨W.gd.kp k, W.k.kp k, W.lam.kp k, W.cl.kp k, W.pl.kp k, W.ta.kp k, W.t97.kp (by decide) k, W.t109.kp (by decide) k⟩
theorem rk_at {h : Heap} {x : Addr} {al : List UInt8} {p : List Nat × Tok} (Z : KAt h x (pv al p)) (hl : al.length = 64) (hd : al.Nodup) (hp : ∀ d ∈ p.1, d < 64) : rkIn h al (.ref x) = ((vl 64 p.1 : Nat) : Int) := by
  obtain ⟨_, dx, _, e, _⟩ := Z
  unfold rkIn
  dsimp only
  rw [e]
  show ((vl 64 ((sg al p.1).toArray.toList.map al.idxOf) : Nat) : Int) = _
  rw [List.toList_toArray, idx_sg hl hd hp]
noncomputable abbrev kk (al : List UInt8) (q : Addr × (List Nat × Tok)) : Keyed := (.ref q.1, pv al q.2)
/-- pieces of one size -/
noncomputable def Pcs (m : Nat) (ps : List (List Nat × Tok)) : Prop := ∀ p ∈ ps, p.1.length = m ∧ ∀ d ∈ p.1, d < 64
section
variable {w : World} {A : Around} {s : Shared} {E : Value → Shared → Prop} {T : BT} {al : List UInt8} {cp d : Addr} {h₂ : Heap} {m : Nat}
theorem cmpAll {qs : List (Addr × (List Nat × Tok))} (W : Wd w T al cp d h₂) (hk : ∀ q ∈ qs, KAt h₂ q.1 (pv al q.2)) (hp : Pcs m (qs.map (·.2))) (hm : m ≤ 6) (hroom : A.depth + 2 < recursionLimit) (hu : A.units < cLine) (hh : A.handled = none) :
    Cmp (MM w) A E (fun s' => ∃ h' tk, s' = sh s h' tk ∧ Kp h₂ h') (rkIn h₂ al) (qs.map fun q => .ref q.1) := by
  intro p hp' q hq' s' hs'
  obtain ⟨h', tk, rfl, k⟩ := hs'
  obtain ⟨x, hx, rfl⟩ := List.mem_map.mp hp'
  obtain ⟨y, hy, rfl⟩ := List.mem_map.mp hq'
  have a := hp _ (List.mem_map.mpr ⟨x, hx, rfl⟩)
  have b := hp _ (List.mem_map.mpr ⟨y, hy, rfl⟩)
  have W' := W.kp k
  refine ltKey (s := sh s h' tk) W'.gd W'.k ((hk x hx).kp k) ((hk y hy).kp k) W'.lam W'.cl W'.pl hroom hu hh (by omega) (by omega) a.2 b.2 fun h'' tk'' k'' => ⟨⟨h'', tk'', rfl, k.trans k''⟩, ?_⟩
  rw [rk_at (hk x hx) W.pl.1 W.pl.2.1 a.2, rk_at (hk y hy) W.pl.1 W.pl.2.1 b.2]
  have := gapf_vl (b := 64) (show x.2.1.length = y.2.1.length by omega) a.2 b.2
  apply decide_eq_decide.mpr
  rw [this]; omega
theorem sortAny {qs : List (Addr × (List Nat × Tok))} {Q : Unit → SortSt → Prop} (W : Wd w T al cp d h₂) (hz : qs.length = 2 ∨ qs.length = 3) (hk : ∀ q ∈ qs, KAt h₂ q.1 (pv al q.2)) (hp : Pcs m (qs.map (·.2))) (hm : m ≤ 6)
    (hroom : A.depth + 2 < recursionLimit) (hu : A.units < cLine) (hh : A.handled = none)
    (h : ∀ st (qs' : List (Addr × (List Nat × Tok))), arrOf st = (qs'.map (kk al)).toArray → failedOf st = none → qs'.Perm qs → qs'.Pairwise (fun p q => vl 64 p.2.1 ≤ vl 64 q.2.1) → Q () st) :
    wpI (MM w) A E (fun s' => ∃ h' tk, s' = sh s h' tk ∧ Kp h₂ h') sortRuns' Q (st0 (qs.map (kk al)).toArray) := by
  have C := cmpAll (E := E) (s := s) W hk hp hm hroom hu hh
  have r : ∀ q ∈ qs, rkIn h₂ al (.ref q.1) = ((vl 64 q.2.1 : Nat) : Int) := fun q hq => rk_at (hk q hq) W.pl.1 W.pl.2.1 (hp _ (List.mem_map.mpr ⟨q, hq, rfl⟩)).2
  match qs, hz with
  | [a, b], _ =>
    have ra := r a (by simp)
    have rb := r b (by simp)
    refine sort2 (p := kk al a) (q := kk al b) C (fun z st e f => ?_) fun z st e f => ?_
    · replace z : ¬ rkIn h₂ al (.ref b.1) < rkIn h₂ al (.ref a.1) := z
      rw [ra, rb] at z
      exact h st [a, b] e f (List.Perm.refl _) (by simp; omega)
    · replace z : rkIn h₂ al (.ref b.1) < rkIn h₂ al (.ref a.1) := z
      rw [ra, rb] at z
      exact h st [b, a] e f (List.Perm.swap ..) (by simp; omega)
  | [a, b, c], _ =>
    refine sort3 (κ := kk al) (a := a) (b := b) (c := c) C fun st x y z e f p u v => ?_
    replace u : rkIn h₂ al (.ref x.1) ≤ rkIn h₂ al (.ref y.1) := u
    replace v : rkIn h₂ al (.ref y.1) ≤ rkIn h₂ al (.ref z.1) := v
    rw [r x (p.mem_iff.mp (by simp)), r y (p.mem_iff.mp (by simp))] at u
    rw [r y (p.mem_iff.mp (by simp)), r z (p.mem_iff.mp (by simp))] at v
    exact h st [x, y, z] e f p (by simp; omega)
end
end Mine
end
section
open PySem PySem.W PySem.W.X PyProof.Rows
set_option maxRecDepth 100000
set_option maxHeartbeats 1000000
namespace Mine
noncomputable abbrev sFunction : Str := ⟨⟨[102, 117, 110, 99, 116, 105, 111, 110]⟩⟩
noncomputable abbrev sValue : Str := ⟨⟨[118, 97, 108, 117, 101]⟩⟩
section
variable {w : World} {A : Around} {s : Shared} {Q E : Value → Shared → Prop}
theorem reduceC {f l : Addr} {vs : List Value} {v0 : Value} {of : Obj} {fd : FuncData} (G : Gd w s.heap) (hl : IsL s.heap l vs.toArray) (hf : s.heap.get? f = some of) (hfd : of.data = .func fd) (hft : f ∉ tabs)
    (hne : ∀ (A' : Around) h₁ tk (R : Value → Shared → Prop), Kp s.heap h₁ → R (.bool false) (sh s h₁ tk) → wpAny (MM w) A' (compareOp .Is v0 (.ref 59)) R (fun _ _ => False) (sh s h₁ tk))
    (hroom : A.depth < recursionLimit) (hh : A.handled = none) (Inv : Nat → Value → List (Addr × Obj) → Prop) (h0 : Inv 0 v0 [])
    (step : ∀ i x v N h tk env', vs[i]? = some x → Kp s.heap h → Inv i v N → (∀ p ∈ N, h.get? p.1 = some p.2 ∧ p.1 ∉ tabs) →
      wpAny (MM w) (A.deeper env') (call (.ref f) [v, x]) (fun v' s' => ∃ h' tk' N', s' = sh s h' tk' ∧ Kp h h' ∧ Inv (i + 1) v' N' ∧ ∀ p ∈ N', h'.get? p.1 = some p.2 ∧ h.objs.size ≤ p.1) (fun _ _ => False) (sh s h tk))
    (h : ∀ v h' tk N, Kp s.heap h' → Inv vs.length v N → (∀ p ∈ N, h'.get? p.1 = some p.2 ∧ p.1 ∉ tabs) → Q v (sh s h' tk)) : wpAny (MM w) A (call (.ref 67) [.ref f, .ref l, v0]) Q E s := by
  refine enter G hroom (G 67 _ rfl (by decide)) rfl ⟨66, _, _, _, rfl, G 66 _ rfl (by decide), rfl, rfl⟩ rfl (BindsTo.of_defaults rfl (G _ _ rfl (by decide)) rfl rfl rfl) (by decide) (locs rfl) ?_
  intro h₁ tk S
  refine wpAny_execs_cons (wpAny_Assign_Name (Call_ ?_))
  refine nameB (.builtin "iter") S.gd rfl rfl rfl rfl rfl (by kernel_rfl!) (by kernel_rfl!) ?_
  refine PyProof.Rows.callWith_builtin1 (spliced_more ?_)
  refine nameL S rfl rfl rfl rfl rfl (spliced_none ?_)
  refine callIter s S (hl.kp S.kp).2 fun it h₂ S hn => ?_
  refine storeL s S rfl rfl rfl fun h₃ tk₃ S => ?_
  refine wpAny_execs_cons (wpAny_If (wpAny_isTrue_Compare1 ?_))
  refine nameL S rfl rfl rfl rfl rfl ?_
  refine nameG S.gd rfl rfl rfl rfl (initMissing w) ?_
  refine hne _ _ _ _ S.kp (wpAny_truthy_bool ?_)
  refine wpAny_execs_cons (wpAny_Assign_Name ?_)
  refine nameL S rfl rfl rfl rfl rfl ?_
  refine storeL s S rfl rfl rfl fun h₄ tk₄ S => wpAny_execs_nil ?_
  refine wpAny_execs_cons (wpAny_For ?_)
  refine nameL S rfl rfl rfl rfl rfl ?_
  refine wpAny_pyIter_listiter (l := l) (i := 0) ⟨_, S.at (List.Mem.head _), rfl, rfl⟩ ?_
  refine codeAny_forLoop (fun n s' => ∃ (i : Nat) (v : Value) (m : Str → Option Value) (h' : Heap) (tk : Nat) (o : Obj) (N : List (Addr × Obj)), s' = sh s h' tk ∧ n + i = vs.length ∧ St w s.heap s.heap.objs.size m ((it, o) :: N) h' ∧ (∀ p ∈ N, p.1 ≠ it) ∧ LiO o l i ∧ Inv i v N ∧
    m sFunction = some (.ref f) ∧ m sValue = some v) ?_ vs.length ?_
  · rintro n s' ⟨i, v, m, h', tk, o, N, rfl, hi, S, hn, ho, hI, e1, e2⟩
    have hl' := (hl.kp S.kp).2
    by_cases z : n = 0
    · refine endL s S hn ho hl' (by simp; omega) hh fun h'' S' => ?_
      refine wpAny_execs_nil ?_
      refine wpAny_execs_cons (wpAny_Return_some (nameL S' rfl rfl rfl e2 rfl ?_))
      have : i = vs.length := by omega
      subst this
      exact h v _ _ N S'.kp hI fun p hp => ⟨(S'.nw p hp).1, (S'.nw p hp).2.2.1⟩
    · have hx : vs.toArray[i]? = some vs[i] := by simp
      refine nextL s S hn ho hl' hx fun h'' o' S' ho' => ?_
      refine wpAny_assign_Name (storeL s S' rfl rfl rfl fun h4 tk4 S4 => ?_)
      refine wpAny_execs_cons (wpAny_Assign_Name (Call_ ?_))
      refine nameL S4 rfl rfl rfl e1 rfl ?_
      refine callWith_def (o := of) hfd (spliced_more ?_)
      refine nameL S4 rfl rfl rfl e2 rfl (spliced_more ?_)
      refine nameL S4 rfl rfl rfl rfl rfl (spliced_none ⟨S4.old hf hft, ?_⟩)
      refine wpAny_mono (step i vs[i] v N h4 tk4 _ (by simp) S4.kp hI fun p hp => ⟨(S4.nw p (List.mem_cons_of_mem _ hp)).1, (S4.nw p (List.mem_cons_of_mem _ hp)).2.2.1⟩) (fun v' s' hs' => ?_) fun _ _ x => x.elim
      obtain ⟨h5, tk5, N', rfl, k5, hI', hN'⟩ := hs'
      have S5 := S4.keep k5
      have lt1 : it < h4.objs.size := Heap.lt_size (S4.nw _ (List.Mem.head _)).1
      have S6 : St w s.heap s.heap.objs.size _ ((it, o') :: N') h5 := ⟨S5.ns, S5.kp, S5.g0, fun p hp => by
        rcases List.mem_cons.mp hp with rfl | hp
        · exact S5.nw _ (List.Mem.head _)
        · have z := hN' p hp
          have lL : s.heap.objs.size < h4.objs.size := S4.ns.lt
          exact ⟨z.1, Nat.ne_of_gt (Nat.lt_of_lt_of_le lL z.2), not_tab (Nat.le_trans S4.gd.size z.2), Heap.get?_none_of_le (Nat.le_trans (Nat.le_of_lt lL) z.2)⟩, S5.hi⟩
      refine storeL s S6 rfl rfl rfl fun h7 tk7 S7 => ?_
      exact wpAny_execs_nil ⟨n - 1, by omega, i + 1, v', _, h7, _, o', N', rfl, by omega, S7, fun p hp => Nat.ne_of_gt (Nat.lt_of_lt_of_le lt1 (hN' p hp).2), ho', hI', e1, rfl⟩
  · exact ⟨0, v0, _, h₄, _, _, [], rfl, by omega, S, fun _ hp => (nomatch hp), ⟨rfl, rfl⟩, h0, rfl, rfl⟩
end
end Mine
end
section
open PySem PySem.W PySem.W.X PyProof.Rows
set_option maxRecDepth 100000
set_option maxHeartbeats 1000000
namespace Mine
section
variable {w : World} {A : Around} {s : Shared} {Q E : Value → Shared → Prop}
theorem methB {b : Array UInt8} {t : Tok} {pl : Sem Bool} {Q : Value × List Value → Shared → Prop} (k : Q (.builtin "bytes.join", [.bytes b t]) s) : wpAny (MM w) A (getMethod (.bytes b t) "join" pl) Q E s :=
  getMethod_builtin (typeIs_bytes s b t) FB.plainAttrs_bytes slot_bytes_join type_bytes_join (fun a e => by cases e) k
/-- the pieces' figures, laid end to end -/
noncomputable abbrev cat (qs : List (List Nat × Tok)) : List Nat := (qs.map (·.1)).flatten
theorem joinAny {l : Addr} {al : List UInt8} {qs : List (List Nat × Tok)} {t : Tok} (hl : s.heap.IsList l (qs.map (pv al)).toArray) (hz : qs.length = 2 ∨ qs.length = 3) (hs : (cat qs).length ≤ 1000)
    (h : ∀ t' tk, Q (.bytes (sg al (cat qs)).toArray t') { s with toks := tk }) : wpAny (MM w) A (call (.builtin "bytes.join") [.bytes #[] t, .ref l]) Q E s := by
  match qs, hz with
  | [a, b], _ =>
    refine join2 (b := (sg al a.1).toArray) (c := (sg al b.1).toArray) hl (by simp [cat] at hs; simp; omega) fun t' tk => ?_
    have e : (sg al a.1).toArray ++ (sg al b.1).toArray = (sg al (cat [a, b])).toArray := by simp [sg, cat]
    rw [e]; exact h _ _
  | [a, b, c], _ =>
    refine join3 (b := (sg al a.1).toArray) (c := (sg al b.1).toArray) (d := (sg al c.1).toArray) hl (by simp [cat] at hs; simp; omega) fun t' tk => ?_
    have e : (sg al a.1).toArray ++ (sg al b.1).toArray ++ (sg al c.1).toArray = (sg al (cat [a, b, c])).toArray := by simp [sg, cat]
    rw [e]; exact h _ _
theorem lawRead {d l : Addr} {al : List UInt8} {b : Nat} {tb : Tok} {qs : List (List Nat × Tok)} (G : Gd w s.heap) (P : Pl w s.heap d al) (T : TbOk 97 s.heap) (hl : IsL s.heap l (qs.map (pv al)).toArray) (hz : qs.length = 2 ∨ qs.length = 3)
    (hb : b ≤ 64) (hd : ∀ x ∈ cat qs, x < b) (hs : b ^ (cat qs).length ≤ 16777216) (hc6 : (cat qs).length ≤ 6) (hroom : A.depth + 3 < recursionLimit) (hh : A.handled = none)
    (h : ∀ h' tk t', Kp s.heap h' → Q (.int ((vl b (cat qs) : Nat) : Int) t') (sh s h' tk)) : wpAny (MM w) A (call (.ref 102) [.ref d, .int b tb, .ref l]) Q E s := by
  refine enterC G (by omega) (G 102 _ rfl (by decide)) rfl ⟨101, _, _, _, rfl, G 101 _ rfl (by decide), rfl, rfl⟩ rfl rfl rfl ?_ ?_
  · intro x hx
    rcases List.mem_cons.mp hx with rfl | hx
    · exact .inr ⟨rfl, rfl⟩
    rcases List.mem_cons.mp hx with rfl | hx
    · exact .inr ⟨rfl, rfl⟩
    rw [List.mem_singleton.mp hx]
    exact .inl rfl
  intro h₁ tk S C
  refine wpAny_execs_cons (wpAny_Return_some (Call_ ?_))
  refine nameG S.gd rfl rfl rfl rfl (v := .ref 67) (by kernel_rfl!) ?_
  refine callWith_def (o := mk.zo_68 w.params) rfl (spliced_more ?_)
  refine mkLam s S.gd (T.kp (by decide) S.kp) (by decide) rfl S.gd.cd97 rfl rfl rfl rfl (by kernel_rfl!) rfl fun q h₂ tk₂ k2 Lm => ?_
  have S2 := S.keep k2
  refine spliced_more (Call_ ?_)
  refine nameB (s := sh s h₂ tk₂) (.type "list") S2.gd rfl rfl rfl rfl rfl (by kernel_rfl!) (by kernel_rfl!) ?_
  refine PySem.Pv.callWith_type1 (spliced_more (MethodCall_ (cB (methB (s := sh s h₂ (tk₂ + 1)) ?_))))
  refine PyProof.Rows.callWith_method1 (spliced_more ?_)
  refine nameL (s := sh s h₂ _) S2 rfl rfl rfl rfl rfl (spliced_none ?_)
  refine joinAny (s := sh s h₂ _) (hl.kp S2.kp).2 hz (by omega) fun t₃ tk₃ => spliced_none ?_
  refine list_bytes (A := A.deeper _) (s := sh s h₂ tk₃) hh (sg al (cat qs)).toArray t₃ (by rw [sizeLine_eq, List.size_toArray, List.length_map]; omega) fun h₄ tk₄ acc c hk hacc hit => ?_
  have S4 := S2.keep (Kp.of hk)
  refine spliced_more (cI (spliced_none ⟨S4.gd 67 _ rfl (by decide), ?_⟩))
  have hn : acc.size = (cat qs).length := by rw [hit.1, List.size_toArray, List.length_map]
  have nq : h₂.objs.size ∉ tabs := not_tab S2.gd.size
  have C4 : ∀ {c v}, Cl h₁ c v → Cl h₄ c v := fun x => (x.kp k2).kp (Kp.of hk)
  have Lm4 := Lm.kp (Kp.of hk)
  have hL4 : IsL h₄ h₂.objs.size acc.toList.toArray := by rw [Array.toArray_toList]; exact ⟨nq, _, hacc, rfl, _, rfl⟩
  obtain ⟨nq', nm, qual, pm, c', ctv, nc', hoq, hcq⟩ := id Lm4
  refine reduceC (A := A.deeper _) (s := sh s h₄ _) (vs := acc.toList) S4.gd hL4 hoq rfl nq' ?_ (show A.depth + 1 < recursionLimit by omega) hh (fun i v N => N = [] ∧ ∃ t, v = .int ((vl b ((cat qs).take i) : Nat) : Int) t) ⟨rfl, _, rfl⟩ ?_ ?_
  · intro A' h5 tk5 R k5 hR
    exact wpAny_is_other rfl (fun e => by cases e) hR
  · rintro i x v N h5 tk5 env' hx k5 ⟨rfl, t, rfl⟩ _
    have hi : i < (cat qs).length := by rw [← hn, ← Array.length_toList]; exact (List.getElem?_eq_some_iff.mp hx).1
    obtain ⟨cc, u, e1, rfl⟩ := hit.2 i x (by rw [← Array.getElem?_toList]; exact hx)
    obtain ⟨x', c2, q1, q2, q3, q4⟩ := sg_at P.1 (ds := cat qs) (i := i) hi (fun y hy => Nat.lt_of_lt_of_le (hd y hy) hb)
    have e2 : cc = c2 := by
      rw [List.getElem?_toArray] at e1
      rw [← q4, List.getD, e1]
      rfl
    subst e2
    have hlt : vl b ((cat qs).take i) < b ^ ((cat qs).take i).length := vl_lt fun y hy => hd y (List.mem_of_mem_take hy)
    have hle : b ^ ((cat qs).take i).length ≤ b ^ (cat qs).length := by
      rcases Nat.eq_zero_or_pos b with z | z
      · subst z
        exact absurd (hd x' (List.mem_of_getElem? q1)) (Nat.not_lt_zero _)
      · exact Nat.pow_le_pow_right z (by rw [List.length_take]; omega)
    have K5 := (S4.kp.trans k5)
    refine lamRead (s := sh s h5 tk5) (S4.gd.kp k5) (Lm4.kp k5) rfl rfl ((C4 (C sPl _ _ rfl rfl)).kp k5) ((C4 (C sBase _ _ rfl rfl)).kp k5) (P.kp K5) (show A.depth + 2 + 1 < recursionLimit from hroom) (by omega) hb q3 fun h6 tk6 t6 k6 => ?_
    refine ⟨h6, tk6, [], rfl, k6, ⟨rfl, t6, ?_⟩, fun _ hp => (nomatch hp)⟩
    rw [List.take_add_one, q1]
    show _ = Value.int ((vl b ((cat qs).take i ++ [x']) : Nat) : Int) t6
    rw [vl_snoc]
  · rintro v h5 tk5 N k5 ⟨_, t, rfl⟩ _
    rw [Array.length_toList, hn, List.take_length]
    exact h _ _ _ (S4.kp.trans k5)
end
end Mine
end
section
open PySem PySem.W PySem.W.X PyProof.Rows
set_option maxRecDepth 100000
set_option maxHeartbeats 1000000
namespace Mine
theorem looks_mapM {α β : Type} {M : Model} {h : Heap} {f : α → Sem β} {g : α → β} : ∀ {l : List α}, (∀ x ∈ l, Looks M h (f x) (g x)) → Looks M h (l.mapM f) (l.map g)
  | [], _ => by rw [List.mapM_nil]; exact .now
  | a :: l, H => by
    rw [List.mapM_cons]
    exact (H a (List.mem_cons_self ..)).andThen ((looks_mapM fun x hx => H x (List.mem_cons_of_mem _ hx)).andThen .now)
theorem looks_mapA {α β : Type} {M : Model} {h : Heap} {f : α → Sem β} {g : α → β} {l : List α} (H : ∀ x ∈ l, Looks M h (f x) (g x)) : Looks M h (l.toArray.mapM f) (l.map g).toArray := by
  rw [List.mapM_toArray, map_eq_pure_bind]
  exact (looks_mapM H).andThen .now
theorem KAt.type {M : Model} {h : Heap} {x : Addr} {v : Value} (z : KAt h x v) : Looks M h (typeOf (.ref x)) (.ref 215) :=
  let ⟨_, _, X⟩ := z.inst
  X.type
theorem kind_K {M : Model} {h : Heap} {xs : List Addr} (hk : ∀ x ∈ xs, ∃ v, KAt h x v) (hne : xs ≠ []) : Looks M h (keyKind' (xs.map Value.ref).toArray) oneType' := by
  obtain ⟨x₀, l, rfl⟩ : ∃ x l, xs = x :: l := by cases xs with | nil => exact absurd rfl hne | cons x l => exact ⟨x, l, rfl⟩
  have t : ∀ v ∈ (x₀ :: l).map Value.ref, Looks M h (typeOf v) (.ref 215) := fun v hv => by
    obtain ⟨x, hx, rfl⟩ := List.mem_map.mp hv
    obtain ⟨_, z⟩ := hk x hx
    exact z.type
  rw [keyKind'_eq]
  refine (looks_mapA (f := firstOfTuple') (g := fun _ => none) fun v hv => ?_).andThen ?_
  · show Looks M h (typeOf v >>= fun t => if (t != Value.type "tuple") = true then pure none else Builtin.List.listItems v >>= fun xs => pure xs[0]?) none
    exact (t v hv).andThen .now
  · rw [if_neg (by simp), if_neg (by simp)]
    have o : Looks M h (oneTypeOnly' ((x₀ :: l).map Value.ref).toArray) (some (.ref 215)) := by
      rw [oneTypeOnly'_eq]
      refine (looks_mapA (f := typeOf) (g := fun _ => Value.ref 215) t).andThen ?_
      have hall : (List.map (fun _ => Value.ref 215) ((x₀ :: l).map Value.ref)).toArray.all (fun x => x == Value.ref 215) = true := by
        simp only [List.all_toArray, List.all_map, List.all_eq_true]
        intro _ _
        rfl
      have h0 : (List.map (fun _ => Value.ref 215) ((x₀ :: l).map Value.ref)).toArray[0]? = some (Value.ref 215) := by simp
      rw [h0]
      dsimp only
      rw [hall]
      exact .now
    exact o.andThen .now
section
variable {prog : Program} {w : World} {A : Around} {s : Shared} {E : Value → Shared → Prop} {P : PySem.Fin → Shared → Prop} {a kS : Addr} {b : Bool}
/-- the sorted values, in the order asked for -/
noncomputable abbrev outOf (b : Bool) (st : SortSt) : Array Value := if b then ((arrOf st).map (·.2)).reverse else (arrOf st).map (·.2)
theorem outOf_size (b : Bool) (st : SortSt) : (outOf b st).size = (arrOf st).size := by cases b <;> simp [outOf]
theorem tailK {st : SortSt} {keys : Array Value} {e e1 : Nat} (na : s.heap.get? a = some (seqObj "list" #[] e1)) (nk : s.heap.get? kS = some (seqObj "list" keys e)) (hka : kS ≠ a) (hs : keys.size ≤ 3) (hz : (arrOf st).size ≤ 3) (hfl : failedOf st = none)
    (H : ∀ h' c, (∀ y, y ≠ a → y ≠ kS → h'.get? y = s.heap.get? y) → h'.get? a = some (seqObj "list" (outOf b st) c) → P (.done (.ret .none)) { s with heap := h' }) :
    wpAny (model prog w) A (ksk_tail a b e1 (.ref kS) st) P E s := by
  have small : ∀ n : Nat, n ≤ 3 → n ≤ sizeLine := fun n q => by rw [sizeLine_eq]; omega
  have na' := ((Heap.SameBut.update s.heap kS (Obj.mapSeq fun _ => (#[] : Array Value))).2 a (Ne.symm hka)).trans na
  unfold ksk_tail
  simp only [hfl]
  refine wpAny_bind (listUpdate_at nk rfl (wpAny_bind (wpAny_letGo (wpAny_bind (seqEpoch_at na' rfl (wpAny_bind (listUpdate_at na' rfl ?_ (Nat.zero_le _) ?_)))))) (small _ hs) (Nat.zero_le _))
  · simp only [bne_self_eq_false, Bool.false_eq_true, if_false]
    exact wpAny_pure (H _ _ (fun y y1 y2 => ((Heap.SameBut.update _ a _).2 y y1).trans ((Heap.SameBut.update _ kS _).2 y y2)) (get?_update_seq na' fun _ => outOf b st))
  · exact Nat.le_succ_of_le (small _ (by rw [outOf_size]; exact hz))
end
end Mine
end
section
open PySem PySem.W PySem.W.X PyProof.Rows
set_option maxRecDepth 100000
set_option maxHeartbeats 1000000
namespace Mine
/-- the pieces' order -/
noncomputable def Ord (b : Bool) (p q : List Nat × Tok) : Prop := if b then vl 64 q.1 ≤ vl 64 p.1 else vl 64 p.1 ≤ vl 64 q.1
theorem KAt.same {h h' : Heap} {x kS : Addr} {v : Value} {keys : Array Value} {e : Nat} (z : KAt h x v) (nk : h.get? kS = some (seqObj "list" keys e)) (hs : Heap.SameBut kS h h') : KAt h' x v := by
  obtain ⟨n, dx, n', a, b⟩ := z
  have q1 : x ≠ kS := fun q => by rw [q, nk] at a; cases a
  have q2 : dx ≠ kS := fun q => by rw [q, nk] at b; simp at b
  exact ⟨n, dx, n', (hs.2 x q1).trans a, (hs.2 dx q2).trans b⟩
theorem zip_kk (al : List UInt8) : ∀ (xs : List Addr) (ps : List (List Nat × Tok)), ((xs.map Value.ref).toArray.zip (ps.map (pv al)).toArray) = ((xs.zip ps).map (kk al)).toArray := by
  intro xs ps
  apply Array.toList_inj.mp
  simp only [Array.toList_zip]
  rw [List.zip_map, List.map_congr_left]
  intro q _
  rfl
section
variable {w : World} {A : Around} {s : Shared} {E : Value → Shared → Prop} {T : BT} {al : List UInt8} {cp d : Addr} {hB h : Heap} {m tk : Nat} {P : PySem.Fin → Shared → Prop} {a kS : Addr} {b : Bool} {ps : List (List Nat × Tok)}
theorem endK {xs : List Addr} {e e1 : Nat} (W : Wd w T al cp d hB) (kp : Kp hB h) (na : h.get? a = some (seqObj "list" #[] e1)) (nk : h.get? kS = some (seqObj "list" (xs.map Value.ref).toArray e)) (hka : kS ≠ a) (na0 : hB.get? a = none) (nk0 : hB.get? kS = none) (ta : a ∉ tabs) (tk' : kS ∉ tabs)
    (hx : xs.length = ps.length) (hK : ∀ q ∈ xs.zip ps, KAt h q.1 (pv al q.2)) (hz : ps.length = 2 ∨ ps.length = 3) (hp : Pcs m ps) (hm : m ≤ 6) (hroom : A.depth + 2 < recursionLimit) (hu : A.units < cLine) (hh : A.handled = none)
    (H : ∀ h' tk c (qs : List (List Nat × Tok)), Kp hB h' → h'.get? a = some (seqObj "list" (qs.map (pv al)).toArray c) → qs.Perm ps → qs.Pairwise (Ord b) → P (.done (.ret .none)) (sh s h' tk)) :
    wpAny (MM w) A (ksk_end a b (ps.map (pv al)).toArray e1 (.ref kS) (xs.map Value.ref).toArray) P E (sh s h tk) := by
  have hsz : ¬ (ps.map (pv al)).toArray.size < 2 := by simp; omega
  have step : ∀ t : Sem PySem.Fin, wpAny (MM w) A t P E (sh s h tk) → wpAny (MM w) A (if b = true then (do let _ ← rule "list.sort.reverse"; t) else t) P E (sh s h tk) := by
    intro t ht
    split
    · exact wpAny_bind (wpAny_rule ht)
    · exact ht
  have W2 := W.kp kp
  have hl : (xs.zip ps).length = ps.length := by rw [List.length_zip, hx, Nat.min_self]
  have hmap : (xs.zip ps).map (·.2) = ps := List.map_snd_zip (by omega)
  unfold ksk_end
  try dsimp only
  refine step _ ?_
  rw [if_neg hsz, if_neg hsz, zip_kk]
  refine wpAny_bind ((kind_K (xs := xs) (fun x hx' => ?_) (by intro z; rw [z] at hx; simp at hx; omega)).at ?_)
  · obtain ⟨i, hi, rfl⟩ := List.getElem_of_mem hx'
    exact ⟨_, hK (xs[i], ps[i]) (List.mem_iff_getElem.mpr ⟨i, by omega, by simp⟩)⟩
  have hr : (if b = true then ((xs.zip ps).map (kk al)).toArray.reverse else ((xs.zip ps).map (kk al)).toArray) = ((if b = true then (xs.zip ps).reverse else xs.zip ps).map (kk al)).toArray := by
    cases b <;> simp
  rw [hr]
  have hperm : (if b = true then (xs.zip ps).reverse else xs.zip ps).Perm (xs.zip ps) := by
    cases b
    · exact List.Perm.refl _
    · exact List.reverse_perm _
  have sA := sortAny (A := A) (E := E) (s := s) (Q := fun _ st => ∃ qs' : List (Addr × (List Nat × Tok)), arrOf st = (qs'.map (kk al)).toArray ∧ failedOf st = none ∧ qs'.Perm (xs.zip ps) ∧ qs'.Pairwise (fun p q => vl 64 p.2.1 ≤ vl 64 q.2.1)) (m := m)
    (qs := if b = true then (xs.zip ps).reverse else xs.zip ps) W2 (by rw [hperm.length_eq, hl]; exact hz) (fun q hq => hK q (hperm.mem_iff.mp hq))
    (fun p hp' => hp p (by rw [← hmap]; exact (hperm.map _).mem_iff.mp hp')) hm hroom hu hh fun st qs' e1 e2 e3 e4 => ⟨qs', e1, e2, e3.trans hperm, e4⟩
  refine wpAny_bind (wpAny_mono (sA (sh s h tk) ⟨h, tk, rfl, Kp.refl h⟩) (fun r s' hq => ?_) fun _ _ x => x)
  obtain ⟨⟨h', tk2, rfl, k2⟩, qs', q1, q2, q3, q4⟩ := hq
  obtain ⟨⟨⟩, st⟩ := r
  dsimp only at q1 q2
  try dsimp only
  have na2 := k2.at_ _ _ na ta
  have nk2 := k2.at_ _ _ nk tk'
  have hq' : qs'.length = ps.length := by rw [q3.length_eq, hl]
  refine tailK (s := sh s h' tk2) na2 nk2 hka (by simp; omega) (by rw [q1]; simp; omega) q2 fun h3 c same ho => ?_
  have kp3 : Kp hB h3 := (kp.trans k2).same2 na0 nk0 na2 nk2 (noCode_seq rfl) (noCode_seq rfl) fun y o y1 y2 e => (same y y1 y2).trans e
  unfold outOf at ho
  rw [q1] at ho
  have ho' : h3.get? a = some (seqObj "list" (((if b = true then qs'.reverse else qs').map (·.2)).map (pv al)).toArray c) := by
    rw [ho]
    cases b <;> simp [kk, Function.comp_def]
  refine H h3 tk2 c ((if b = true then qs'.reverse else qs').map (·.2)) kp3 ho' ?_ ?_
  · rw [← hmap]
    refine List.Perm.map _ ?_
    cases b
    · exact q3
    · exact (List.reverse_perm _).trans q3
  · cases b
    · exact List.pairwise_map.mpr q4
    · exact List.pairwise_map.mpr (List.pairwise_reverse.mpr q4)
end
end Mine
end
section
open PySem PySem.W PySem.W.X PyProof.Rows
set_option maxHeartbeats 1000000
namespace Mine
theorem kdiff {M m W : Nat} (h : m ≤ M) (hW : 1 ≤ W) : ((M * W + m : Nat) : Int) - ((m * W + M : Nat) : Int) = (((M - m) * (W - 1) : Nat) : Int) := by
  obtain ⟨k, rfl⟩ : ∃ k, M = m + k := ⟨M - m, by omega⟩
  have e1 : (m + k) * W = m * W + k * W := Nat.add_mul ..
  have e2 : (m + k - m) * (W - 1) = k * W - k := by rw [Nat.add_sub_cancel_left, Nat.mul_sub, Nat.mul_one]
  have e3 : k ≤ k * W := Nat.le_mul_of_pos_right _ hW
  rw [e1, e2]
  omega
theorem pw_b {b m : Nat} (hb : b ≤ 64) {qs ps : List (List Nat × Tok)} {z : Bool} (hp : qs.Perm ps) (hm : ∀ p ∈ ps, p.1.length = m ∧ ∀ d ∈ p.1, d < b) (o : qs.Pairwise (Ord z)) :
    qs.Pairwise fun p q => if z then vl b q.1 ≤ vl b p.1 else vl b p.1 ≤ vl b q.1 := by
  refine o.imp_of_mem fun {p q} hp' hq' h => ?_
  have a := hm p (hp.mem_iff.mp hp')
  have c := hm q (hp.mem_iff.mp hq')
  unfold Ord at h
  cases z
  · exact (ord_vl hb (by omega) a.2 c.2).mp h
  · exact (ord_vl hb (by omega) c.2 a.2).mp h
theorem kap2 {b m : Nat} (hb : b ≤ 64) (hb0 : 0 < b) {p q : List Nat × Tok} {x y : List (List Nat × Tok)} (hm : ∀ r ∈ [p, q], r.1.length = m ∧ ∀ d ∈ r.1, d < b) (hx : x.Perm [p, q]) (hy : y.Perm [p, q]) (ox : x.Pairwise (Ord true)) (oy : y.Pairwise (Ord false)) :
    ((vl b (cat x) : Nat) : Int) - ((vl b (cat y) : Nat) : Int) = (((max (vl b p.1) (vl b q.1) - min (vl b p.1) (vl b q.1)) * (b ^ m - 1) : Nat) : Int) := by
  have lx := pw_b hb hx hm ox
  have ly := pw_b hb hy hm oy
  simp only [if_true, Bool.false_eq_true, if_false] at lx ly
  obtain ⟨a1, a2, c1, c2, rfl, rfl, e1, e2, e3, e4⟩ := two_sorted (f := fun p : List Nat × Tok => vl b p.1) hx hy lx ly
  have l2 := (hm a2 (hx.mem_iff.mp (by simp))).1
  have l4 := (hm c2 (hy.mem_iff.mp (by simp))).1
  have v1 : vl b (cat [a1, a2]) = vl b a1.1 * b ^ m + vl b a2.1 := by simp only [cat, List.map_cons, List.map_nil, List.flatten_cons, List.flatten_nil, List.append_nil]; rw [vl_app, l2]
  have v2 : vl b (cat [c1, c2]) = vl b c1.1 * b ^ m + vl b c2.1 := by simp only [cat, List.map_cons, List.map_nil, List.flatten_cons, List.flatten_nil, List.append_nil]; rw [vl_app, l4]
  rw [v1, v2, e1, e2, e3, e4]
  exact kdiff (by omega) (Nat.pow_pos hb0)
theorem kap3 {b m : Nat} (hb : b ≤ 64) (hb0 : 0 < b) {p q r : List Nat × Tok} {x y : List (List Nat × Tok)} (hm : ∀ u ∈ [p, q, r], u.1.length = m ∧ ∀ d ∈ u.1, d < b) (hx : x.Perm [p, q, r]) (hy : y.Perm [p, q, r]) (ox : x.Pairwise (Ord true)) (oy : y.Pairwise (Ord false)) :
    ((vl b (cat x) : Nat) : Int) - ((vl b (cat y) : Nat) : Int) = (((max (max (vl b p.1) (vl b q.1)) (vl b r.1) - min (min (vl b p.1) (vl b q.1)) (vl b r.1)) * (b ^ (m + m) - 1) : Nat) : Int) := by
  have lx := pw_b hb hx hm ox
  have ly := pw_b hb hy hm oy
  simp only [if_true, Bool.false_eq_true, if_false] at lx ly
  obtain ⟨a1, a2, a3, c1, c2, c3, rfl, rfl, e1, e3, d1, d2, d3, hle⟩ := three_sorted (f := fun p : List Nat × Tok => vl b p.1) hx hy lx ly
  have l2 := (hm a2 (hx.mem_iff.mp (by simp))).1
  have l3 := (hm a3 (hx.mem_iff.mp (by simp))).1
  have l5 := (hm c2 (hy.mem_iff.mp (by simp))).1
  have l6 := (hm c3 (hy.mem_iff.mp (by simp))).1
  have v1 : vl b (cat [a1, a2, a3]) = vl b a1.1 * b ^ (m + m) + (vl b a2.1 * b ^ m + vl b a3.1) := by simp only [cat, List.map_cons, List.map_nil, List.flatten_cons, List.flatten_nil, List.append_nil]; rw [vl_app, vl_app, List.length_append, l2, l3]
  have v2 : vl b (cat [c1, c2, c3]) = vl b c1.1 * b ^ (m + m) + (vl b c2.1 * b ^ m + vl b c3.1) := by simp only [cat, List.map_cons, List.map_nil, List.flatten_cons, List.flatten_nil, List.append_nil]; rw [vl_app, vl_app, List.length_append, l5, l6]
  have k := kdiff (M := vl b a1.1) (m := vl b a3.1) (W := b ^ (m + m)) hle (Nat.pow_pos hb0)
  rw [v1, v2, d1, d2, d3, ← e1, ← e3]
  rw [← k]
  omega
end Mine
end
section
open PySem PySem.W PySem.W.X PyProof.Rows
set_option maxRecDepth 100000
set_option maxHeartbeats 1000000
namespace Mine
section
variable {w : World} {A : Around} {s : Shared} {E : Value → Shared → Prop} {T : BT} {al : List UInt8} {cp d : Addr} {hB h : Heap} {m tk : Nat} {P : PySem.Fin → Shared → Prop} {a kS : Addr} {b : Bool} {ps : List (List Nat × Tok)}
theorem restK {e1 : Nat} (W : Wd w T al cp d hB) (kp : Kp hB h) (na : h.get? a = some (seqObj "list" #[] e1)) (nk : h.get? kS = some (seqObj "list" #[] 0)) (hka : kS ≠ a) (na0 : hB.get? a = none) (nk0 : hB.get? kS = none) (ta : a ∉ tabs) (tk' : kS ∉ tabs)
    (hz : ps.length = 2 ∨ ps.length = 3) (hp : Pcs m ps) (hm : m ≤ 6) (hroom : A.depth + 2 < recursionLimit) (hu : A.units < cLine) (hh : A.handled = none)
    (H : ∀ h' tk c (qs : List (List Nat × Tok)), Kp hB h' → h'.get? a = some (seqObj "list" (qs.map (pv al)).toArray c) → qs.Perm ps → qs.Pairwise (Ord b) → P (.done (.ret .none)) (sh s h' tk)) :
    wpAny (MM w) A (ksk_rest a (.ref 215) b (ps.map (pv al)).toArray e1 (.ref kS)) P E (sh s h tk) := by
  unfold ksk_rest
  refine wpAny_bind (wpAny_rule ?_)
  rw [List.forIn_toArray]
  refine wpAny_bind (ksk_fold (fun i s' => ∃ h' tk e xs, s' = sh s h' tk ∧ Kp hB h' ∧ h'.get? a = some (seqObj "list" #[] e1) ∧ h'.get? kS = some (seqObj "list" (xs.map Value.ref).toArray e) ∧ xs.length = i ∧ i ≤ ps.length ∧ (∀ q ∈ xs.zip ps, KAt h' q.1 (pv al q.2))) (ps.map (pv al)) 0 (sh s h tk)
    ⟨h, tk, 0, [], rfl, kp, na, nk, rfl, Nat.zero_le _, fun q hq => by simp at hq⟩ ?step ?done)
  case step =>
    rintro j x s' hx ⟨h', tk2, e, xs, rfl, kp', na', nk', hl, hj', hK⟩
    simp only [Nat.zero_add] at hl ⊢
    rw [List.getElem?_map] at hx
    obtain ⟨p, hpj, rfl⟩ := Option.map_eq_some_iff.mp hx
    have hj : j < ps.length := (List.getElem?_eq_some_iff.mp hpj).1
    have W' := W.kp kp'
    refine wpAny_bind (wpAny_attempt (makeK (s := sh s h' tk2) W'.gd W'.k (by omega) fun h3 tk3 y dx k3 hy hdx l1 l2 => ?_))
    have nk3 := k3.at_ _ _ nk' tk'
    have na3 := k3.at_ _ _ na' ta
    have s1 := Heap.SameBut.update h3 kS (Obj.mapSeq (·.push (.ref y)))
    obtain ⟨c2, hc2⟩ : ∃ c2, (h3.update kS (Obj.mapSeq (·.push (.ref y)))).get? kS = some (seqObj "list" ((xs.map Value.ref).toArray.push (.ref y)) c2) := ⟨_, get?_update_seq nk3 (·.push (.ref y))⟩
    have g3 := W'.gd.size
    have zy : KAt h3 y (pv al p) := ⟨not_tab (Nat.le_trans g3 l1), dx, not_tab (Nat.le_trans g3 l2), hy, hdx⟩
    refine wpAny_bind (listUpdate_at (s := sh s h3 tk3) nk3 rfl ?_ (by rw [sizeLine_eq]; simp; omega) (by rw [sizeLine_eq]; simp; omega))
    refine wpAny_pure ⟨rfl, _, tk3, c2, xs ++ [y], rfl, ?_, (s1.2 a hka.symm).trans na3, ?_, by simp [hl], by omega, fun q hq => ?_⟩
    · exact (kp'.trans k3).same nk0 nk3 (noCode_seq rfl) fun z o nz ez => (s1.2 z nz).trans ez
    · rw [hc2]; simp
    · have hps : ps = ps.take j ++ p :: ps.drop (j + 1) := by
        have := List.take_append_drop j ps
        rw [List.drop_eq_getElem_cons hj, (List.getElem?_eq_some_iff.mp hpj).2] at this
        exact this.symm
      rw [hps, List.zip_append (by rw [List.length_take, hl]; omega)] at hq
      rcases List.mem_append.mp hq with hq | hq
      · refine ((hK q ?_).kp k3).same nk3 s1
        rw [hps, ← List.append_nil xs, List.zip_append (by rw [List.length_take, hl]; omega)]
        exact List.mem_append_left _ hq
      · simp at hq
        rw [hq]
        exact zy.same nk3 s1
  case done =>
    rintro s' ⟨h', tk2, e, xs, rfl, kp', na', nk', hl, hj', hK⟩
    try dsimp only
    refine wpAny_bind (listItems_at (s := sh s h' tk2) nk' rfl ?_)
    exact endK W kp' na' nk' hka na0 nk0 ta tk' (by simpa using hl) hK hz hp hm hroom hu hh H
theorem treeK {n : Nat} (W : Wd w T al cp d hB) (kp : Kp hB h) (ho : h.get? a = some (seqObj "list" (ps.map (pv al)).toArray n)) (na0 : hB.get? a = none) (ta : a ∉ tabs) (hsz : hB.objs.size ≤ h.objs.size)
    (hz : ps.length = 2 ∨ ps.length = 3) (hp : Pcs m ps) (hm : m ≤ 6) (hroom : A.depth + 2 < recursionLimit) (hu : A.units < cLine) (hh : A.handled = none)
    (H : ∀ h' tk c (qs : List (List Nat × Tok)), Kp hB h' → h'.get? a = some (seqObj "list" (qs.map (pv al)).toArray c) → qs.Perm ps → qs.Pairwise (Ord b) → P (.done (.ret .none)) (sh s h' tk)) :
    wpAny (MM w) A (ksk_tree a (.ref 215) b) P E (sh s h tk) := by
  have few : ∀ {n : Nat}, n ≤ 3 → n ≤ sizeLine := fun q => by rw [sizeLine_eq]; omega
  have three : (ps.map (pv al)).length ≤ 3 := by rw [List.length_map]; omega
  have lt : a < h.objs.size := Heap.lt_size ho
  have off := get?_update_seq ho fun _ => (#[] : Array Value)
  have kp1 : Kp hB (h.update a (Obj.mapSeq fun _ => #[])) := kp.same na0 ho (noCode_seq rfl) fun z _ nz => ((Heap.SameBut.update h a _).2 z nz).trans
  have k : ((h.update a (Obj.mapSeq fun _ => #[])).push (seqObj "tuple" (ps.map (pv al)).toArray 0)).objs.size = h.objs.size + 1 := by rw [size_push', Heap.size_update]
  have rest := restK (A := A) (s := s) (E := E) (P := P) (b := b) (tk := tk) W ((kp1.trans (Kp.push _ (seqObj "tuple" (ps.map (pv al)).toArray 0))).trans (Kp.push _ (seqObj "list" #[] 0)))
    (Heap.get?_push_of_some _ (Heap.get?_push_of_some _ off)) (Heap.get?_push_size _ rfl) (by rw [k]; exact Nat.ne_of_gt (Nat.lt_succ_of_lt lt)) na0 (by rw [k]; exact Heap.get?_none_of_le (Nat.le_succ_of_le hsz)) ta
    (by rw [k]; exact not_tab (Nat.le_succ_of_le (Nat.le_trans W.gd.size hsz))) hz hp hm hroom hu hh H
  unfold ksk_tree
  exact wpAny_bind (listItems_at (s := sh s h tk) ho rfl (wpAny_bind (listUpdate_at (s := sh s h tk) ho rfl (wpAny_bind (seqEpoch_at off rfl (wpAny_bind (wpAny_newTuple (wpAny_bind (wpAny_newList (wpAny_holding rest) (Nat.zero_le _))) (few three))))) (few three) (Nat.zero_le _))))
end
/-- sorted's heap at list.sort: what collect read, and the new list -/
noncomputable abbrev srtH (h : Heap) (its : Array Value) : Heap := ((h.push (seqObj "list" #[] 0)).update h.objs.size (Obj.mapSeq (· ++ its))).push (seqObj "list" its 0)
theorem srtH_kp (h : Heap) (its : Array Value) : Kp h (srtH h its) :=
  ((Kp.push h _).same (Heap.get?_none_of_le (Nat.le_refl _)) (Heap.get?_push_size _ rfl) (noCode_seq rfl) fun b _ n e => ((Heap.SameBut.update _ _ _).2 b n).trans e).trans (Kp.push _ _)
theorem srtH_size1 (h : Heap) (its : Array Value) : ((h.push (seqObj "list" #[] 0)).update h.objs.size (Obj.mapSeq (· ++ its))).objs.size = h.objs.size + 1 := by rw [Heap.size_update, size_push']
theorem srtH_new (h : Heap) (its : Array Value) : (srtH h its).get? (h.objs.size + 1) = some (seqObj "list" its 0) := srtH_size1 h its ▸ Heap.get?_push_size _ rfl
section
variable {w : World} {A : Around} {s : Shared} {Q E : Value → Shared → Prop} {T : BT} {al : List UInt8} {cp d l : Addr} {m : Nat} {b : Bool} {ps : List (List Nat × Tok)}
theorem sortedK {kw : List (Str × Value)} (W : Wd w T al cp d s.heap) (hl : s.heap.IsList l (ps.map (pv al)).toArray) (ha1 : argsOk "sorted" ⟨[.ref l], kw⟩) (ha2 : ∀ x, argsOk "list.sort" ⟨[.ref x], kw⟩) (ht : ∀ x, Builtin.«list.sort» ⟨[.ref x], kw⟩ = ksk_tree x (.ref 215) b)
    (hz : ps.length = 2 ∨ ps.length = 3) (hp : Pcs m ps) (hm : m ≤ 6) (hroom : A.depth + 2 < recursionLimit) (hu : A.units + 2 < cLine) (hh : A.handled = none)
    (h : ∀ D h' tk (qs : List (List Nat × Tok)), Kp s.heap h' → s.heap.objs.size ≤ D → h'.IsList D (qs.map (pv al)).toArray → qs.Perm ps → qs.Pairwise (Ord b) → Q (.ref D) (sh s h' tk)) :
    wpAny (MM w) A (call (.builtin "sorted") [.ref l] kw) Q E s := by
  have few : (ps.map (pv al)).length ≤ sizeLine := by rw [sizeLine_eq, List.length_map]; omega
  refine call_function_entry_kw kind_sorted plain_sorted entry_sorted ha1 ?_
  unfold Builtin.«sorted»
  refine wpAny_bind (m := checkCount "sorted" 1 1 _) (wpAny_pure (wpAny_bind (collect_list hl (wpAny_bind (wpAny_newList ?_ few)) few)))
  show wpAny (MM w) A.in1 _ _ _ (sh s (srtH s.heap (ps.map (pv al)).toArray) s.toks)
  rw [srtH_size1]
  have new := srtH_new s.heap (ps.map (pv al)).toArray
  have sort := treeK (A := A.in1.in1) (s := s) (E := E) (b := b) (tk := s.toks) (P := fun fin s' => ∃ v, fin = .done (.ret v) ∧ wpAny (MM w) A.in1 (ret (.ref (s.heap.objs.size + 1))) (fun fin s' => ∃ v, fin = .done (.ret v) ∧ Q v s') E s') W (srtH_kp _ _) new
    (Heap.get?_none_of_le (Nat.le_succ _)) (not_tab (Nat.le_succ_of_le W.gd.size)) (Nat.le_of_lt (Nat.lt_of_succ_lt (Heap.lt_size new))) hz hp hm hroom hu hh
    fun h' tk c qs k ho p o => ⟨_, rfl, wpAny_pure ⟨_, rfl, h _ h' tk qs k (Nat.le_succ _) ⟨_, ho, rfl, _, rfl⟩ p o⟩⟩
  exact wpAny_bind (wpAny_holding (wpAny_call_entry_kw slot_list_sort ⟨_, new, rfl⟩ entry_list_sort (ht _ ▸ sort) (ha2 _)))
end
end Mine
end
section
open PySem PySem.W PySem.W.X PyProof.Rows
set_option maxRecDepth 100000
set_option maxHeartbeats 1000000
namespace Mine
noncomputable abbrev chunk (ds : List Nat) (sz i : Nat) : List Nat := (ds.drop (i * sz)).take sz
/-- how a word is cut -/
structure Shape (al : List UInt8) (ds : List Nat) (sz n : Nat) : Prop where
  n23 : n = 2 ∨ n = 3
  sz0 : 0 < sz ∧ sz ≤ 6
  small : Builtin.Range.small 0 (ds.length : Int) (sz : Int) = true
  size : Builtin.Range.rangeSize 0 (ds.length : Int) (sz : Int) = n
  pick : ∀ i, i < n → KBy.picked (sg al ds).toArray (some ((i * sz : Nat) : Int)) (some (((i * sz : Nat) : Int) + (sz : Int))) = (sg al (chunk ds sz i)).toArray ∧ KBy.whole (sg al ds).toArray (some ((i * sz : Nat) : Int)) (some (((i * sz : Nat) : Int) + (sz : Int))) = false
  len : ∀ i, i < n → (chunk ds sz i).length = sz
  low : ds.length ≤ 6
  all : n * sz = ds.length
theorem paired_chunks {al : List UInt8} {ds : List Nat} {sz n : Nat} (h0 : 0 < sz) {vs ys : List Value} (k : Nat) (hp : Paired (fun v y => ∃ (i : Nat) (t t' : Tok), i < n ∧ v = Value.int (0 + (i : Int) * (sz : Int)) t ∧ y = Value.bytes (sg al (chunk ds sz i)).toArray t') vs ys)
    (hP : ∀ (j : Nat) v, vs[j]? = some v → ∃ t, v = Value.int (0 + ((k + j : Nat) : Int) * (sz : Int)) t) : ∃ ps : List (List Nat × Tok), ys = ps.map (pv al) ∧ ps.map (·.1) = (List.range' k vs.length).map (chunk ds sz) := by
  induction hp generalizing k with
  | nil => exact ⟨[], rfl, rfl⟩
  | cons hF hr ih =>
    obtain ⟨ps, e1, e2⟩ := ih (k + 1) fun j v hv => by
      have := hP (j + 1) v (by simpa using hv)
      have e : k + (j + 1) = k + 1 + j := by omega
      rw [e] at this
      exact this
    obtain ⟨i, t, t', _, q1, q2⟩ := hF
    obtain ⟨t2, q3⟩ := hP 0 _ rfl
    rw [q1] at q3
    have q4 : (0 : Int) + (i : Int) * (sz : Int) = 0 + ((k + 0 : Nat) : Int) * (sz : Int) := (Value.int.inj q3).1
    have hik : i = k := by
      have q5 : ((i * sz : Nat) : Int) = ((k * sz : Nat) : Int) := by simpa using q4
      exact Nat.eq_of_mul_eq_mul_right h0 (by omega)
    subst hik
    refine ⟨(chunk ds sz i, t') :: ps, ?_, ?_⟩
    · rw [List.map_cons, ← e1, q2]
    · rw [List.map_cons, e2, List.length_cons, List.range'_succ, List.map_cons]
theorem cat_len {m : Nat} : ∀ {z : List (List Nat × Tok)}, (∀ p ∈ z, p.1.length = m) → (cat z).length = z.length * m
  | [], _ => by simp [cat]
  | p :: z, h => by
    have ih := cat_len (z := z) fun q hq => h q (List.mem_cons_of_mem _ hq)
    have hp := h p (List.mem_cons_self ..)
    simp only [cat, List.map_cons, List.flatten_cons, List.length_append, List.length_cons] at *
    rw [ih, hp, Nat.add_mul, Nat.one_mul, Nat.add_comm]
noncomputable abbrev sWritten : Str := ⟨⟨[119, 114, 105, 116, 116, 101, 110]⟩⟩
noncomputable abbrev sSize : Str := ⟨⟨[115, 105, 122, 101]⟩⟩
noncomputable abbrev sK : Str := ⟨⟨[107]⟩⟩
section
variable {prog : Program} {w : World} {A : Around} {s : Shared} {Q E : Value → Shared → Prop}
theorem bsliceR {value slice : PySem.Expr} {b : Array UInt8} {t : Tok} {l u : Value} {lo hi : Option Int} (hl : IsPart l lo) (hu : IsPart u hi)
    (hne : KBy.whole b lo hi = false) (hz : (KBy.picked b lo hi).size ≤ 16777216) (k : ∀ t' tk', Q (.bytes (KBy.picked b lo hi) t') { s with heap := s.heap.push { cls := .type "slice", data := .fields #[l, u, .none] }, toks := tk' })
    (hs : subscripted slice false (.bytes b t) (.ref s.heap.objs.size) = operate [.ref s.heap.objs.size, .bytes b t] (getItem (.bytes b t) (.ref s.heap.objs.size)))
    (ht : ∀ r, letTemporaryGo value (.bytes b t) r = pure ()) :
    wpAny (model prog w) A (subscriptTail value slice (.bytes b t) (.ref s.heap.objs.size)) Q E { s with heap := s.heap.push { cls := .type "slice", data := .fields #[l, u, .none] } } := by
  have ty := typeIs_bytes { s with heap := s.heap.push { cls := .type "slice", data := .fields #[l, u, .none] } } b t
  have got := getItem_meets (prog := prog) (w := w) (E := E) (A := A) (Q := Q) ty (by decide) FB.slot_bytes_getitem FB.entry_bytes_getitem (FB.args_bytes_getitem_2 _ _) (KBy.meets_slice b t _ hl hu hne) ⟨Heap.IsSliceOf.new _ _ _ _, sizeLine_eq ▸ hz, k _ _⟩
  exact tail_of_ItemOn ⟨_, _, FB.slot_bytes_getitem.lookup, ty, got⟩ hs ht
end
section
variable {M : Model} {A : Around} {E : Value → Shared → Prop} {s : Shared} {env : Env}
theorem CallKw_ {func : Expr} {args : List Expr} {kws : List Keyword} {pos : Pos} {Q : Value → Shared → Prop}
    (h : wpAny M A (eval func env) (fun fv s₁ => wpAny M A (callWith pos fv [] (backTo pos (starEach args env)) (backToKw pos (keywordEach kws env))) Q E s₁) E s)
    (he : eval (.Call func args kws pos) env = (do callWith pos (← eval func env) [] (backTo pos (starEach args env)) (backToKw pos (keywordEach kws env))) := by rfl) :
    wpAny M A (eval (.Call func args kws pos) env) Q E s := he ▸ wpAny_bind h
end
section
variable {w : World} {A : Around} {s : Shared} {Q E : Value → Shared → Prop} {T : BT} {al : List UInt8} {cp d : Addr}
theorem lawNext {b sz n : Nat} {ds : List Nat} {tb ts tw : Tok} (W : Wd w T al cp d s.heap) (Tb : TbOk 97 s.heap) (Sp : Shape al ds sz n) (hb : b ≤ 64) (hb0 : 0 < b) (hd : ∀ x ∈ ds, x < b) (hs : b ^ ds.length ≤ 16777216)
    (hroom : A.depth + 4 < recursionLimit) (hu : A.units + 5 < cLine) (hh : A.handled = none)
    (h : ∀ h' tk t' ps x y, Kp s.heap h' → ps.map (·.1) = (List.range n).map (chunk ds sz) → x.Perm ps → y.Perm ps → x.Pairwise (Ord true) → y.Pairwise (Ord false) → Q (.int (((vl b (cat x) : Nat) : Int) - ((vl b (cat y) : Nat) : Int)) t') (sh s h' tk)) :
    wpAny (MM w) A (call (.ref 107) [.ref d, .ref 215, .int b tb, .int sz ts, .bytes (sg al ds).toArray tw]) Q E s := by
  have G := W.gd
  refine enterC G (by omega) (G 107 _ rfl (by decide)) rfl ⟨106, _, _, _, rfl, G 106 _ rfl (by decide), rfl, rfl⟩ rfl rfl rfl ?_ ?_
  · intro x hx
    rcases List.mem_cons.mp hx with rfl | hx
    · exact .inl rfl
    rcases List.mem_cons.mp hx with rfl | hx
    · exact .inl rfl
    rcases List.mem_cons.mp hx with rfl | hx
    · exact .inl rfl
    rcases List.mem_cons.mp hx with rfl | hx
    · exact .inr ⟨rfl, rfl⟩
    rw [List.mem_singleton.mp hx]
    exact .inr ⟨rfl, rfl⟩
  intro h₁ tk S C
  have cW := C sWritten _ _ rfl rfl
  have cS := C sSize _ _ rfl rfl
  refine wpAny_execs_cons (wpAny_Assign_ListComp_free (fun _ => true) (fun v y => ∃ (i : Nat) (t t' : Tok), i < n ∧ v = .int (0 + (i : Int) * (sz : Int)) t ∧ y = .bytes (sg al (chunk ds sz i)).toArray t') rfl rfl (noCells (by kernel_rfl!)) rfl ?_ rfl rfl rfl ?_)
  · decide
  refine Call_ ?_
  refine nameB (.type "range") S.gd rfl rfl rfl rfl rfl (by kernel_rfl!) (by kernel_rfl!) ?_
  refine PySem.Pv.callWith_type1 (spliced_more (cI (spliced_more (Call_ ?_))))
  refine nameB (s := sh s h₁ (tk + 1)) (.builtin "len") S.gd rfl rfl rfl rfl rfl (by kernel_rfl!) (by kernel_rfl!) ?_
  refine PyProof.Rows.callWith_builtin1 (spliced_more ?_)
  refine nameC (s := sh s h₁ (tk + 1)) rfl rfl rfl cW.2 rfl (spliced_none (lenB (by simp; have := Sp.low; omega) (spliced_more ?_)))
  refine nameC (s := sh s h₁ _) rfl rfl rfl cS.2 rfl (spliced_none ?_)
  have ez : ((sg al ds).toArray.size : Int) = (ds.length : Int) := by simp
  rw [ez]
  refine call_range_3 (by have := Sp.sz0; omega) ?_ (Or.inl (PyProof.noPylong_small (by have := Sp.sz0; omega)))
  refine wpAny_pyIter_range (Heap.get?_push_size _ rfl) Sp.small ?_
  rw [Sp.size]
  have hLt : s.heap.objs.size < h₁.objs.size := S.ns.lt
  have hk2 : ∀ b o, h₁.get? b = some o → b ≠ h₁.objs.size + 1 := fun b o e q => absurd (Heap.lt_size e) (by rw [q]; exact Nat.not_lt.mpr (Nat.le_succ _))
  refine ⟨_, _, _, n, _, _, _, rfl, (Walks.range (A := A.deeper _) hh _ 0 sz n).bound, ?_, ?_, ?_, ?_, (S.push.push).ns, ?_, ?_⟩
  · rw [sizeLine_eq]; have := Sp.n23; omega
  · show IsRangeIter _ _ _ _ _
    have e1 : (0 : Int) + ((0 : Nat) : Int) * (sz : Int) = 0 := by simp
    have e2 : (n : Int) - ((0 : Nat) : Int) = n := by simp
    rw [e1, e2]
    exact Heap.get?_push_size _ rfl
  · intro b hb
    rw [List.mem_singleton.mp hb]
    exact Heap.lt_size (Heap.get?_push_size _ rfl)
  · intro hm
    have := List.mem_singleton.mp hm
    have e : s.heap.objs.size = (h₁.push { cls := .type "range", data := .fields #[Value.int 0 tk, Value.int (ds.length : Int) (tk + 1 + 1), Value.int (sz : Int) ts] }).objs.size := this
    rw [size_push'] at e
    omega
  · refine ⟨fun C i v s₃ m₃ E' _ _ _ _ _ _ => wpAny_pure ⟨rfl, _, _, rfl, fun _ _ e => e⟩, fun C i v s₃ m₃ E' hC hv _ hns hm hk _ => ?_⟩
    obtain ⟨hi, t, rfl⟩ := hv
    have kk : ∀ b o, h₁.get? b = some o → s₃.heap.get? b = some o := fun b o e => hk b o (fun hm => hk2 b o e (by
      have := List.mem_singleton.mp hm
      rw [this]
      exact size_push' h₁ _)) (Heap.get?_push_of_some _ (Heap.get?_push_of_some _ e))
    refine Subscript_ (nameC rfl rfl rfl (cW.2.keeps kk) rfl (wpAny_Slice (evalPart_some_step ?_)))
    refine wpAny_Name (wpAny_loadName_local rfl rfl hns hm (evalPart_some_step (wpAny_BinOp ?_))) rfl
    refine wpAny_Name (wpAny_loadName_local rfl rfl hns hm ?_) rfl
    refine nameC rfl rfl rfl (cS.2.keeps kk) rfl (PyProof.Rows.add_int (evalPart_none_step ?_))
    have pk := Sp.pick i hi
    have e0 : (0 : Int) + (i : Int) * (sz : Int) = ((i * sz : Nat) : Int) := by simp
    rw [e0]
    refine bsliceR (IsPart.int _ _) (IsPart.int _ _) pk.2 (by rw [pk.1]; simp; have := Sp.len i hi; have := Sp.sz0; simp at *; omega) (fun t' tk' => ⟨⟨i, t, t', hi, by rw [e0], by rw [pk.1]⟩, _, _, rfl, fun _ _ e => Heap.get?_push_of_some _ e⟩) (by with_unfolding_all rfl) (by intro _; with_unfolding_all rfl)
  · intro D h' tk' ys vs hD hl hpl hlen hP hF hns hkeep
    have hD1 : h₁.get? D = none := by
      cases q : h₁.get? D with
      | none => rfl
      | some o => exact absurd ((Heap.get?_push_of_some _ (Heap.get?_push_of_some _ q)).symm.trans hD) (by simp)
    obtain ⟨nD, hpl⟩ := hpl
    have S5 := S.comp (W.ta.kp S.kp) hns (fun b o nb e => hkeep b o nb (fun hm => hk2 b o e (by
      have := List.mem_singleton.mp hm
      rw [this]
      exact size_push' h₁ _)) (Heap.get?_push_of_some _ (Heap.get?_push_of_some _ e))) hD1 hpl
    rw [List.filter_eq_self.mpr (fun _ _ => rfl)] at hF
    obtain ⟨ps, eY, ePs⟩ := paired_chunks Sp.sz0.1 0 hF fun j v hv => by
      obtain ⟨_, t, e⟩ := hP j v hv
      exact ⟨t, by rw [e]; simp⟩
    have eY' : ys = (ps.map (pv al)).toArray := by rw [← eY, Array.toArray_toList]
    subst eY'
    rw [hlen, ← List.range_eq_range'] at ePs
    have hpl2 : ps.length = n := by
      have := congrArg List.length ePs
      simpa using this
    have hmem : ∀ p ∈ ps, ∃ i, i < n ∧ p.1 = chunk ds sz i := fun p hp => by
      have : p.1 ∈ (List.range n).map (chunk ds sz) := by rw [← ePs]; exact List.mem_map.mpr ⟨p, hp, rfl⟩
      obtain ⟨i, hi, e⟩ := List.mem_map.mp this
      exact ⟨i, List.mem_range.mp hi, e.symm⟩
    have hdb : ∀ p ∈ ps, p.1.length = sz ∧ ∀ x ∈ p.1, x < b := fun p hp => by
      obtain ⟨i, hi, e⟩ := hmem p hp
      rw [e]
      exact ⟨Sp.len i hi, fun x hx => hd x (List.mem_of_mem_drop (List.mem_of_mem_take hx))⟩
    have hPc : Pcs sz ps := fun p hp => ⟨(hdb p hp).1, fun x hx => Nat.lt_of_lt_of_le ((hdb p hp).2 x hx) hb⟩
    refine wpAny_execs_cons (wpAny_Assign_Name (CallKw_ ?_))
    refine nameB (s := sh s h' tk') (.builtin "sorted") S5.gd rfl rfl rfl rfl rfl (by kernel_rfl!) (by kernel_rfl!) ?_
    refine callWith_kw (spliced_more (nameL (s := sh s h' tk') S5 rfl rfl rfl rfl rfl (spliced_none ?_)))
    refine kwAll_cons (nameL (s := sh s h' tk') S5 rfl rfl rfl rfl rfl (kwAll_cons ?_))
    refine wpAny_Constant_bool (kwAll_nil ?_)
    have W5 := W.kp S5.kp
    have hL5 : IsL h' D (ps.map (pv al)).toArray := ⟨(S5.nw _ (List.Mem.head _)).2.2.1, _, S5.at (List.Mem.head _), rfl, _, rfl⟩
    refine sortedK (s := sh s h' tk') (b := true) (m := sz) W5 hL5.2 (ksk_s2 _ _ _) (fun x => ksk_l2 _ _ _) (fun x => ksk_t2 _ _ _) (by rw [hpl2]; exact Sp.n23) hPc Sp.sz0.2 (show A.depth + 1 + 2 < recursionLimit by omega) (show A.units + 3 + 2 < cLine by omega) hh fun D2 h6 tk6 x k6 nD2 l6 px ox => ?_
    obtain ⟨oD2, eD2, cD2, nD2', dD2⟩ := l6
    have S6 := (S5.keep k6).add S5.ns.lt nD2 eD2
    refine storeL s S6 rfl rfl rfl fun h7 tk7 S7 => ?_
    have W7 := W.kp S7.kp
    refine wpAny_execs_cons (wpAny_Return_some (wpAny_BinOp (Call_ ?_)))
    refine nameG (s := sh s h7 tk7) S7.gd rfl rfl rfl rfl (v := .ref 102) (by kernel_rfl!) ?_
    refine callWith_def (o := mk.zo_103 w.params) rfl (spliced_more ?_)
    refine nameL (s := sh s h7 tk7) S7 rfl rfl rfl rfl rfl (spliced_more (nameL (s := sh s h7 tk7) S7 rfl rfl rfl rfl rfl (spliced_more (nameL (s := sh s h7 tk7) S7 rfl rfl rfl rfl rfl (spliced_none ⟨S7.gd 102 _ rfl (by decide), ?_⟩)))))
    have hL7 : IsL h7 D2 (x.map (pv al)).toArray := ⟨(S7.nw _ (List.Mem.head _)).2.2.1, _, S7.at (List.Mem.head _), cD2, _, dD2⟩
    have catLen : ∀ {z : List (List Nat × Tok)}, z.Perm ps → (cat z).length ≤ 6 ∧ b ^ (cat z).length ≤ 16777216 ∧ ∀ y ∈ cat z, y < b := by
      intro z hz
      have e := cat_len (m := sz) (z := z) fun p hp => (hdb p (hz.mem_iff.mp hp)).1
      rw [hz.length_eq, hpl2, Sp.all] at e
      refine ⟨by rw [e]; exact Sp.low, by rw [e]; exact hs, fun y hy => ?_⟩
      obtain ⟨l, hl, hy'⟩ := List.mem_flatten.mp hy
      obtain ⟨p, hp, rfl⟩ := List.mem_map.mp hl
      exact (hdb p (hz.mem_iff.mp hp)).2 y hy'
    have cx := catLen px
    have lx : x.length = 2 ∨ x.length = 3 := by rw [px.length_eq, hpl2]; exact Sp.n23
    refine lawRead (s := sh s h7 tk7) (A := A.deeper _) S7.gd W7.pl W7.t97 hL7 lx hb cx.2.2 cx.2.1 cx.1 (show A.depth + 1 + 3 < recursionLimit by omega) hh fun h8 tk8 t8 k8 => ?_
    have S8 := S7.keep k8
    refine Call_ ?_
    refine nameG (s := sh s h8 tk8) S8.gd rfl rfl rfl rfl (v := .ref 102) (by kernel_rfl!) ?_
    refine callWith_def (o := mk.zo_103 w.params) rfl (spliced_more ?_)
    refine nameL (s := sh s h8 tk8) S8 rfl rfl rfl rfl rfl (spliced_more (nameL (s := sh s h8 tk8) S8 rfl rfl rfl rfl rfl (spliced_more (CallKw_ ?_))))
    refine nameB (s := sh s h8 tk8) (.builtin "sorted") S8.gd rfl rfl rfl rfl rfl (by kernel_rfl!) (by kernel_rfl!) ?_
    refine callWith_kw (spliced_more (nameL (s := sh s h8 tk8) S8 rfl rfl rfl rfl rfl (spliced_none ?_)))
    refine kwAll_cons (nameL (s := sh s h8 tk8) S8 rfl rfl rfl rfl rfl (kwAll_nil ?_))
    have hL8 : IsL h8 D (ps.map (pv al)).toArray := ⟨(S8.nw _ (List.Mem.tail _ (List.Mem.head _))).2.2.1, _, S8.at (List.Mem.tail _ (List.Mem.head _)), rfl, _, rfl⟩
    refine sortedK (s := sh s h8 tk8) (b := false) (m := sz) (W.kp S8.kp) hL8.2 (ksk_s1 _ _) (fun x => ksk_l1 _ _) (fun x => ksk_t1 _ _) (by rw [hpl2]; exact Sp.n23) hPc Sp.sz0.2 (show A.depth + 1 + 2 < recursionLimit by omega) (show A.units + 3 + 2 < cLine by omega) hh fun D3 h9 tk9 y k9 nD3 l9 py oy => ?_
    have S9 := S8.keep k9
    refine spliced_none ⟨S9.gd 102 _ rfl (by decide), ?_⟩
    have W9 := W.kp S9.kp
    have cy := catLen py
    have ly : y.length = 2 ∨ y.length = 3 := by rw [py.length_eq, hpl2]; exact Sp.n23
    refine lawRead (s := sh s h9 tk9) (A := A.deeper _) S9.gd W9.pl W9.t97 ⟨not_tab (Nat.le_trans S8.gd.size nD3), l9⟩ ly hb cy.2.2 cy.2.1 cy.1 (show A.depth + 1 + 3 < recursionLimit by omega) hh fun h10 tk10 t10 k10 => ?_
    refine PyProof.Rows.sub_int ?_
    exact h h10 _ _ ps x y (S9.kp.trans k10) ePs px py ox oy
end
end Mine
end
section
open PySem PySem.W PySem.W.X PyProof.Rows
set_option maxRecDepth 100000
set_option maxHeartbeats 1000000
namespace Mine
noncomputable def b62 : List UInt8 := [65, 66, 67, 68, 69, 70, 71, 72, 73, 74, 75, 76, 77, 78, 79, 80, 81, 82, 83, 84, 85, 86, 87, 88, 89, 90, 97, 98, 99, 100, 101, 102, 103, 104, 105, 106, 107, 108, 109, 110, 111, 112, 113, 114, 115, 116, 117, 118, 119, 120, 121, 122, 48, 49, 50, 51, 52, 53, 54, 55, 56, 57]
/-- the alphabet with two marks of its own -/
noncomputable def alOf (a b : UInt8) : List UInt8 := b62 ++ [a, b]
theorem alOf_len (a b : UInt8) : (alOf a b).length = 64 := rfl
/-- maketrans' table -/
noncomputable def tbl (a b : UInt8) : Array UInt8 := (((Array.range 256).map (·.toUInt8)).setIfInBounds 43 a).setIfInBounds 47 b
theorem tbl_size (a b : UInt8) : (tbl a b).size = 256 := by simp [tbl]
theorem tbl_at (a b c : UInt8) : (tbl a b).getD c.toNat c = if c = 47 then b else if c = 43 then a else c := by
  have hc := c.toNat_lt
  have e : ∀ x : UInt8, (c.toNat = x.toNat) ↔ c = x := fun x => UInt8.toNat_inj
  have e47 : (47 = c.toNat) ↔ c = 47 := by rw [eq_comm]; exact e 47
  have e43 : (43 = c.toNat) ↔ c = 43 := by rw [eq_comm]; exact e 43
  unfold tbl
  rw [Array.getD_eq_getD_getElem?, Array.getElem?_setIfInBounds, Array.getElem?_setIfInBounds]
  simp only [e47, e43, Array.size_setIfInBounds, Array.size_map, Array.size_range]
  by_cases h1 : c = 47
  · subst h1; rfl
  · by_cases h2 : c = 43
    · subst h2; rfl
    · simp [h1, h2, hc]
theorem std_tbl (a b : UInt8) : ∀ i, i < 64 → (tbl a b).getD (std.getD i 0).toNat (std.getD i 0) = (alOf a b).getD i 0 := by
  intro i hi
  rw [tbl_at]
  by_cases z : i < 62
  · have e : (alOf a b).getD i 0 = b62.getD i 0 := by
      unfold alOf
      rw [List.getD_eq_getElem?_getD, List.getD_eq_getElem?_getD, List.getElem?_append_left (show i < b62.length from z)]
    have k : ∀ j : Fin 62, (if std.getD (j : Nat) 0 = 47 then b else if std.getD (j : Nat) 0 = 43 then a else std.getD (j : Nat) 0) = b62.getD (j : Nat) 0 := by
      intro j
      have q : ∀ j : Fin 62, std.getD (j : Nat) 0 ≠ 47 ∧ std.getD (j : Nat) 0 ≠ 43 ∧ std.getD (j : Nat) 0 = b62.getD (j : Nat) 0 := by decide +kernel
      rw [if_neg (q j).1, if_neg (q j).2.1]
      exact (q j).2.2
    rw [e]
    exact k ⟨i, z⟩
  · have : i = 62 ∨ i = 63 := by omega
    rcases this with rfl | rfl
    · rfl
    · rfl
theorem sg_tbl (a b : UInt8) {ds : List Nat} (h : ∀ x ∈ ds, x < 64) : ((sg std ds).map fun c => (tbl a b).getD c.toNat c) = sg (alOf a b) ds := by
  unfold sg
  rw [List.map_map]
  exact List.map_congr_left fun x hx => std_tbl a b x (h x hx)
theorem slot_bytes_translate : Slot "bytes" "translate" "bytes.translate" :=
  .of (owner := "bytes") (n := "translate") (by rw [typeLookup_type, builtinLookup_eq_fast]; kernel_rfl) (by decide +kernel) (by decide +kernel) (by decide +kernel)
    (by first | exact .inl (by decide +kernel) | exact .inr (by decide +kernel)) (by rw [isSubtype_type]; kernel_rfl)
theorem type_bytes_translate : typeOf (.builtin "bytes.translate") = pure (.type "method_descriptor") := by show builtinType _ = _; rw [builtinType_eq_fast]; kernel_rfl
theorem entry_bytes_translate : entryFor table "bytes.translate" = some Builtin.«bytes.translate» := by first | exact entryFor_of_tree (by kernel_rfl) | exact entryFor_of_fast (by kernel_rfl)
theorem args_bytes_translate (a b : Value) : argsOk "bytes.translate" ⟨[a, b], []⟩ := by unfold argsOk; kernel_rfl
theorem plain_mt : plainId "bytes.maketrans" = true := by decide +kernel
theorem entry_mt : entryFor table "bytes.maketrans" = some Builtin.«bytes.maketrans» := by first | exact entryFor_of_tree (by kernel_rfl) | exact entryFor_of_fast (by kernel_rfl)
theorem check_mt (a b : Value) : checkBuiltinCall "bytes.maketrans" ⟨[a, b], []⟩ = pure () := by kernel_rfl!
theorem find_mt : PySem.W.findCls [] (.type "bytes") (.type "type") "maketrans" = some (.val (.builtin "bytes.maketrans")) := by kernel_rfl!
section
variable {w : World} {A : Around} {s : Shared} {E : Value → Shared → Prop}
theorem methT {b : Array UInt8} {t : Tok} {pl : Sem Bool} {Q : Value × List Value → Shared → Prop} (k : Q (.builtin "bytes.translate", [.bytes b t]) s) : wpAny (MM w) A (getMethod (.bytes b t) "translate" pl) Q E s :=
  by with_reducible exact KBd.method_of (.bytes b t) (typeIs_bytes s b t) slot_bytes_translate type_bytes_translate KBd.noRef k
theorem methMT {h₀ : Heap} {L : Addr} {m : Str → Option Value} {N : List (Addr × Obj)} {pl : Sem Bool} {Q : Value × List Value → Shared → Prop} (S : St w h₀ L m N s.heap) (k : Q (.builtin "bytes.maketrans", []) { s with toks := s.toks + 1 }) : wpAny (MM w) A (getMethod (.type "bytes") "maketrans" pl) Q E s := by
  have F : Fr ({} : Heap) L s.heap m := ⟨S.ns, fun b o e => by simp [Heap.get?] at e, Nat.zero_le _⟩
  have X : Frag.In [] ({} : Heap) := fun a o e => by cases e
  have e1 : typeOf (.type "bytes") = pure (.type "type") := by kernel_rfl!
  have e2 : Manifest.isStub "bytes" = false := by decide +kernel
  have e3 : handedIn (.builtin "bytes.maketrans") = true := by decide +kernel
  with_reducible exact method_type F X e1 e2 find_mt e3 k
theorem callMT {a b : UInt8} {t u : Tok} {Q : Value → Shared → Prop} (k : ∀ t' tk, Q (.bytes (tbl a b) t') { s with toks := tk }) : wpAny (MM w) A (call (.builtin "bytes.maketrans") [.bytes #[43, 47] t, .bytes #[a, b] u]) Q E s := by
  refine wpAny_call (codeAny_call_builtin plain_mt entry_mt ?_)
  rw [check_mt]
  refine wpAny_pure ?_
  unfold Builtin.«bytes.maketrans» Builtin.Bytes.maketransM
  refine wpAny_bind (wpAny_of_eq (a := ()) (by kernel_rfl!) ?_)
  refine wpAny_bind (wpAny_of_eq (a := ()) (by kernel_rfl!) ?_)
  refine wpAny_bind (wpAny_of_eq KBd.like_eq ?_)
  refine wpAny_bind (wpAny_of_eq KBd.like_eq ?_)
  refine bm_if_false rfl ?_
  refine wpAny_bind (wpAny_mkBytes ?_ ?_)
  · exact wpAny_pure (k _ _)
  · show (tbl a b).size ≤ _
    rw [tbl_size, sizeLine_eq]; decide
theorem callT {T x : Array UInt8} (hT : T.size = 256) {t u : Tok} {Q : Value → Shared → Prop} (hz : x.size ≤ 1000) (k : ∀ t' tk, Q (.bytes (x.map fun c => T.getD c.toNat c) t') { s with toks := tk }) :
    wpAny (MM w) A (call (.builtin "bytes.translate") [.bytes x t, .bytes T u]) Q E s := by
  refine wpAny_call_entry slot_bytes_translate (typeIs_bytes _ _ _) entry_bytes_translate ?_ (args_bytes_translate _ _)
  unfold Builtin.«bytes.translate» Builtin.Bytes.translateM
  show wpAny _ _ (Builtin.Bytes.bytesLike _ (.bytes T u) >>= fun t => _) _ _ _
  refine wpAny_bind (wpAny_of_eq KBd.like_eq ?_)
  refine bm_if_false (by show (T.size != 256) = false; rw [hT]; rfl) ?_
  refine wpAny_bind (wpAny_pure ?_)
  refine wpAny_bind (wpAny_pure ?_)
  refine wpAny_bind (wpAny_of_eq (a := x) rfl ?_)
  have key : ∀ out : Array UInt8, out = (x.map fun c => T.getD c.toNat c) →
      wpAny (MM w) A.in1 (if (out == x) = true then (do rule "bytes.translate.unchanged"; ret (← Builtin.Bytes.Kind.same .bytes (.bytes x t))) else (do ret (← Builtin.Bytes.Kind.new .bytes out))) (fun fin s' => ∃ v, fin = .done (.ret v) ∧ Q v s') E s := by
    rintro out rfl
    split
    · rename_i h
      have h' : (x.map fun c => T.getD c.toNat c) = x := beq_iff_eq.mp h
      rw [h'] at k
      refine wpAny_bind (wpAny_rule ?_)
      refine wpAny_bind (wpAny_of_eq (a := Value.bytes x t) rfl ?_)
      exact wpAny_pure ⟨_, rfl, k t s.toks⟩
    · refine wpAny_bind (wpAny_mkBytes (wpAny_pure ⟨_, rfl, k _ _⟩) ?_)
      rw [Array.size_map, sizeLine_eq]; omega
  refine key ((x.filter fun c => !(#[] : Array UInt8).contains c).map fun c => T.getD c.toNat c) ?_
  have e : (x.filter fun c => !(#[] : Array UInt8).contains c) = x := by simp
  rw [e]
end
section
variable {w : World} {A : Around} {s : Shared} {Q E : Value → Shared → Prop}
theorem b64C {N : Nat} {a b : UInt8} {t u : Tok} (G : Gd w s.heap) (hroom : A.depth + 2 < recursionLimit) (hh : A.handled = none) (hN : N < 16777216)
    (h : ∀ h' tk t', Kp s.heap h' → Q (.bytes (sg (alOf a b) (dg 64 4 N)).toArray t') (sh s h' tk)) : wpAny (MM w) A (call (.ref 51) [.bytes (oct3 N) t, .bytes #[a, b] u]) Q E s := by
  refine enter G (by omega) (G 51 _ rfl (by decide)) rfl ⟨50, _, _, _, rfl, G 50 _ rfl (by decide), rfl, rfl⟩ rfl (BindsTo.of_defaults rfl (G _ _ rfl (by decide)) rfl rfl rfl) (by decide) (locs rfl) ?_
  intro h₁ tk S
  refine wpAny_execs_cons (wpAny_Assign_Name (CallKw_ ?_))
  refine nameG S.gd rfl rfl rfl rfl (v := .ref 43) (by kernel_rfl!) ?_
  refine callWith_def_kw (o := mk.zo_44 w.params) rfl (evalArgs_kw2 rfl (spliced_more (nameL S rfl rfl rfl rfl rfl (spliced_none ?_))))
  refine kwAll_cons (wpAny_Constant_bool (kwAll_nil ⟨S.gd 43 _ rfl (by decide), ?_⟩))
  refine b2aC (s := sh s h₁ tk) S.gd (show A.depth + 1 + 1 < recursionLimit by omega) hh hN fun h₂ tk₂ t₂ k₂ => ?_
  refine storeL s (S.keep k₂) rfl rfl rfl fun h₃ tk₃ S => ?_
  refine wpAny_execs_cons (wpAny_If (wpAny_isTrue_Compare1 ?_))
  refine nameL (s := sh s h₃ tk₃) S rfl rfl rfl rfl rfl (wpAny_Constant_none (isnot_bytes_none (wpAny_truthy_bool ?_)))
  rw [if_pos rfl]
  refine wpAny_execs_cons (wpAny_Assert_holds (wpAny_isTrue_Compare1 (Call_ ?_)))
  refine nameB (s := sh s h₃ tk₃) (.builtin "len") S.gd rfl rfl rfl rfl rfl (by kernel_rfl!) (by kernel_rfl!) ?_
  refine PyProof.Rows.callWith_builtin1 (spliced_more (nameL (s := sh s h₃ tk₃) S rfl rfl rfl rfl rfl (spliced_none (lenB (by show 2 ≤ _; decide) ?_))))
  refine cI (eqI (wpAny_truthy_bool ⟨rfl, ?_⟩))
  refine wpAny_execs_cons (wpAny_Return_some (MethodCall_ ?_))
  refine nameL (s := sh s h₃ _) S rfl rfl rfl rfl rfl (methT ?_)
  refine PyProof.Rows.callWith_method1 (spliced_more (MethodCall_ ?_))
  refine nameB (s := sh s h₃ _) (.type "bytes") S.gd rfl rfl rfl rfl rfl (by kernel_rfl!) (by kernel_rfl!) ?_
  refine methMT (s := sh s h₃ _) S ?_
  refine PyProof.Rows.callWith_builtin1 (spliced_more (cB (spliced_more ?_)))
  refine nameL (s := sh s h₃ _) S rfl rfl rfl rfl rfl (spliced_none (callMT fun t4 tk4 => spliced_none ?_))
  refine callT (tbl_size a b) (by simp [dg]) fun t5 tk5 => ?_
  have e : (sg std (dg 64 4 N)).toArray.map (fun c => (tbl a b).getD c.toNat c) = (sg (alOf a b) (dg 64 4 N)).toArray := by
    rw [List.map_toArray, sg_tbl a b fun x hx => dg_lt (by decide) _ _ x hx]
  rw [e]
  exact h _ _ _ S.kp
end
end Mine
end
section
open PySem PySem.W PySem.W.X PyProof.Rows
set_option maxRecDepth 100000
set_option maxHeartbeats 1000000
namespace Mine
/-- the heap's size, and the two tables that law's way fills, still empty -/
structure Zd (h : Heap) (n : Nat) : Prop where
  size : h.objs.size = n
  t53 : h.get? 53 = some (tabObj #[])
  t121 : h.get? 121 = some (tabObj #[])
  t97 : h.get? 97 = some (tabObj #[])
  t109 : h.get? 109 = some (tabObj #[])
theorem Zd.keep {h h' : Heap} {n m : Nat} (Z : Zd h n) (k : ∀ b o, h.get? b = some o → h'.get? b = some o) (hz : h'.objs.size = m) : Zd h' m := ⟨hz, k _ _ Z.t53, k _ _ Z.t121, k _ _ Z.t97, k _ _ Z.t109⟩
theorem Zd.push {h : Heap} {n : Nat} (Z : Zd h n) (o : Obj) : Zd (h.push o) (n + 1) := Z.keep (fun _ _ e => Heap.get?_push_of_some _ e) (by rw [size_push', Z.size])
theorem Zd.same {h h' : Heap} {n : Nat} {a : Addr} (Z : Zd h n) (hs : Heap.SameBut a h h') (ha : 125 ≤ a) : Zd h' n :=
  have ne : ∀ b : Addr, @LT.lt Nat _ b 125 → b ≠ a := fun b lt => Nat.ne_of_lt (Nat.lt_of_lt_of_le lt ha)
  ⟨hs.1.trans Z.size, (hs.2 53 (ne 53 (by decide))).trans Z.t53, (hs.2 121 (ne 121 (by decide))).trans Z.t121, (hs.2 97 (ne 97 (by decide))).trans Z.t97, (hs.2 109 (ne 109 (by decide))).trans Z.t109⟩
/-- the top's tree but the tables of nested lambdas -/
theorem Zd.holds {w : World} {h₀ h : Heap} {n : Nat} (Z : Zd h n) (ZH : KT.Holds h₀ 1 0 (mk.ktop_249 w.params)) (k : Kp h₀ h) (z53 : h₀.get? 53 = some (tabObj #[])) : KT.Holds h 1 0 (mkB.ktop_249 w.params) :=
  holds_cut (fun a o e n => by
    by_cases q : a = 53
    · subst q
      rw [z53] at e
      cases e
      exact Z.t53
    · refine k.at_ a o e fun m => ?_
      unfold tabs at m
      simp only [List.mem_cons, List.not_mem_nil, or_false] at m
      rcases m with rfl | rfl | rfl | rfl
      · exact q rfl
      · cases n
      · cases n
      · cases n) ZH
section
variable {w : World} {A : Around} {E : Value → Shared → Prop} {Q : Unit → Shared → Prop} {h₀ h : Heap} {L c : Addr} {m : Str → Option Value} {N : List (Addr × Obj)} {env : Env} {x : Str} {v : Value} {tk n : Nat} {v₀ : Option Value}
theorem storeZ (s : Shared) (S : St w h₀ L m N h) (Z : Zd h n) (hL : env.locals = L) (h25 : 125 ≤ L) (hl : env.kindOf x = some .local) (hp : (env.scope.kind == .class || (env.scope.kind == .module && env.locals != env.globals)) = false)
    (k : ∀ h' tk', St w h₀ L (fun y => if y = x then some v else m y) N h' → Zd h' n → Q () (sh s h' tk')) : wpAny (MM w) A (storeName env x v) Q E (sh s h tk) :=
  wpAny_storeName_local (s := sh s h tk) hl (hL ▸ S.ns) (fun h' hn hs => k h' _ (S.store (hL ▸ hn) (hL ▸ hs)) (Z.same (hL ▸ hs) h25)) hp
theorem storeC (s : Shared) {o : Obj} (S : St w h₀ L m ((c, o) :: N) h) (Z : Zd h n) (h25 : 125 ≤ c) (hk : env.scope.kind = .function) (hl : env.kindOf x = some .cell) (hc : env.cells.lookup x = some c) (ho : o.data = .cell v₀) (hn : ∀ p ∈ N, p.1 ≠ c)
    (k : ∀ h' o', St w h₀ L m ((c, o') :: N) h' → o'.data = .cell (some v) → Zd h' n → Heap.SameBut c h h' → Q () (sh s h' tk)) : wpAny (MM w) A (storeName env x v) Q E (sh s h tk) :=
  wpAny_storeName_cell (s := sh s h tk) hk hl hc ⟨o, S.at (List.Mem.head _), ho⟩ fun h' hv hs => by
    obtain ⟨o', e, d⟩ := hv
    exact k h' o' (S.change hs e hn (noCode_cell ho)) d (Z.same hs h25) hs
end
theorem take2 : ∀ vs : List Value, slicePick vs.toArray none (some 2) none = (vs.take 2).toArray
  | [] => rfl
  | [x] => by
    have e : sliceBounds none (some 2) none 1 = (((0 : Nat) : Int), ((1 : Nat) : Int), 1) := by decide
    unfold slicePick
    rw [show [x].toArray.size = 1 from rfl, e]
    dsimp only
    rw [sliceRange_one]
    rfl
  | x :: y :: l => slicePick_upto (x :: y :: l).toArray 2 (by simp)
/-- the marks' choice -/
noncomputable def frB : List UInt8 := [45, 95, 43, 47, 33, 126, 46, 44, 58, 59, 36, 64]
theorem al_nodup {i j : Nat} (hi : i < 12) (hj : j < 12) (hne : i ≠ j) : (alOf (frB.getD i 0) (frB.getD j 0)).Nodup := by
  have h1 : b62.Nodup := by decide +kernel
  have h2 : ∀ k : Fin 12, frB.getD (k : Nat) 0 ∉ b62 := by decide +kernel
  have h3 : ∀ k l : Fin 12, k ≠ l → frB.getD (k : Nat) 0 ≠ frB.getD (l : Nat) 0 := by decide +kernel
  unfold alOf
  rw [List.nodup_append]
  refine ⟨h1, ?_, ?_⟩
  · have := h3 ⟨i, hi⟩ ⟨j, hj⟩ (fun q => hne (Fin.mk.inj q))
    simpa using this
  · intro x hx y hy q
    subst q
    simp only [List.mem_cons, List.not_mem_nil, or_false] at hy
    rcases hy with rfl | rfl
    · exact h2 ⟨i, hi⟩ hx
    · exact h2 ⟨j, hj⟩ hx
theorem mark_nat : ∀ (p : Fin 12) (q : Fin 11), p.1 ≠ (p.1 + 1 + q.1) % 12 := by decide +kernel
theorem mark_at {t : Int} : ∃ i j : Nat, t.fmod 12 = (i : Int) ∧ (t.fmod 12 + 1 + (t.fdiv 12).fmod 11).fmod 12 = (j : Int) ∧ i < 12 ∧ j < 12 ∧ i ≠ j := by
  rw [Int.fmod_eq_emod_of_nonneg _ (show (0 : Int) ≤ 12 by decide), Int.fmod_eq_emod_of_nonneg _ (show (0 : Int) ≤ 12 by decide), Int.fmod_eq_emod_of_nonneg _ (show (0 : Int) ≤ 11 by decide)]
  have p1 := Int.emod_lt_of_pos t (show (0 : Int) < 12 by decide)
  have q1 := Int.emod_lt_of_pos (t.fdiv 12) (show (0 : Int) < 11 by decide)
  obtain ⟨p, hp⟩ := Int.eq_ofNat_of_zero_le (Int.emod_nonneg t (show (12 : Int) ≠ 0 by decide))
  obtain ⟨q, hq⟩ := Int.eq_ofNat_of_zero_le (Int.emod_nonneg (t.fdiv 12) (show (11 : Int) ≠ 0 by decide))
  rw [hp] at p1 ⊢
  rw [hq] at q1 ⊢
  exact ⟨p, (p + 1 + q) % 12, rfl, rfl, Int.ofNat_lt.mp p1, Nat.mod_lt _ (by decide), mark_nat ⟨p, Int.ofNat_lt.mp p1⟩ ⟨q, Int.ofNat_lt.mp q1⟩⟩
noncomputable abbrev sAlpha : Str := ⟨⟨[97, 108, 112, 104, 97, 98, 101, 116]⟩⟩
noncomputable abbrev sMk : Str := ⟨⟨[109, 97, 114, 107, 115]⟩⟩
section
variable {w : World} {s : Shared} {Q E : Value → Shared → Prop}
theorem sumZ {env : Env} {h : Heap} {d : Drawn} {tk : Nat} {os : OsState} {vs : List Value} {ns : List Int} (hs : h.objs.size = 132) (ZH : KT.Holds h 1 0 (mkB.ktop_249 w.params)) (hi : IntsAre vs ns)
    (hl : h.get? 131 = some { cls := .type "list", data := .seq (vs.take 2).toArray })
    (H : ∀ v h' tk', h'.objs.size = 136 → (∀ b o, h.get? b = some o → h'.get? b = some o) → (∃ x t, v = .int x t) → Q v ⟨h', #[], d, tk', os⟩) : wpAny (MM w) (callerA.deeper env) (call (.builtin "sum") [.ref 131]) Q E ⟨h, #[], d, tk, os⟩ := by
  cases hi with
  | nil => exact sum0 hs ZH rfl hl fun v h' tk' a b ⟨x, t, e, _⟩ => H v h' tk' a b ⟨x, t, e⟩
  | cons n t r => cases r with
    | nil => exact sum1 hs ZH rfl hl fun v h' tk' a b ⟨x, t, e, _⟩ => H v h' tk' a b ⟨x, t, e⟩
    | cons n' t' _ => exact sum2 hs ZH rfl hl fun v h' tk' a b ⟨x, t, e, _⟩ => H v h' tk' a b ⟨x, t, e⟩
theorem bytesZ {env : Env} {h : Heap} {d : Drawn} {tk : Nat} {os : OsState} {a b : UInt8} {t u : Tok} (hs : h.objs.size = 136) (ZH : KT.Holds (h.push { cls := .type "list", data := .seq ([Value.int (a.toNat : Int) t, Value.int (b.toNat : Int) u] : List Value).toArray }) 1 0 (mkB.ktop_249 w.params))
    (H : ∀ h' tk' t', h'.objs.size = 141 → (∀ b o, h.get? b = some o → h'.get? b = some o) → Q (.bytes #[a, b] t') ⟨h', #[], d, tk', os⟩) :
    wpAny (MM w) (callerA.deeper env) (call (.type "bytes") [.ref h.objs.size]) Q E ⟨h.push { cls := .type "list", data := .seq ([Value.int (a.toNat : Int) t, Value.int (b.toNat : Int) u] : List Value).toArray }, #[], d, tk, os⟩ := by
  have gl := Heap.get?_push_size h (o := { cls := .type "list", data := .seq ([Value.int (a.toNat : Int) t, Value.int (b.toNat : Int) u] : List Value).toArray }) rfl
  rw [hs] at gl ⊢
  have ha := a.toNat_lt
  have hb := b.toNat_lt
  have vb : ∀ x : UInt8, ((x.toNat : Int)).toNat.toUInt8 = x := fun x => by simp
  refine bytes2 (by rw [size_push', hs]) ZH rfl (by omega) (by omega) (by omega) (by omega) gl fun v h' tk' z k hv => ?_
  obtain ⟨t', rfl⟩ := hv
  rw [vb, vb]
  exact H h' tk' t' z fun b o e => k b o (Heap.get?_push_of_some _ e)
theorem lawP1 {vs : List Value} {ns : List Int} (G : Gd w s.heap) (hs : s.heap.objs.size = 126) (hg : s.gens = #[]) (ZH : KT.Holds s.heap 1 0 (mk.ktop_249 w.params)) (z53 : s.heap.get? 53 = some (tabObj #[])) (z121 : s.heap.get? 121 = some (tabObj #[])) (z97 : s.heap.get? 97 = some (tabObj #[])) (z109 : s.heap.get? 109 = some (tabObj #[]))
    (hl : s.heap.IsList 125 vs.toArray) (hi : IntsAre vs ns) (hvs : vs.length ≤ 2 ^ 20)
    (k : ∀ h' tk a b ta tb m oa om op, St w s.heap 126 m [(127, oa), (128, om), (129, op)] h' → oa.data = .cell (some (.bytes (alOf a b).toArray ta)) → om.data = .cell (some (.bytes #[a, b] tb)) → op.data = .cell none → Zd h' 141 → m sScript = some (.ref 125) → (alOf a b).Nodup →
      wpAny (MM w) (callerA.deeper (lawEnv w)) (execs ((lawBody w).drop 4) (lawEnv w)) (fun f s' => Q (rv f) s') (fun _ _ => False) (sh s h' tk)) :
    wpAny (MM w) callerA (call (.ref 124) [.ref 125]) Q E s := by
  obtain ⟨hp, g, d, tk₀, os⟩ := s
  dsimp only at hg
  subst hg
  refine enterLaw G hs (by decide) fun h₁ tk₁ S z₁ keep₁ => ?_
  have Z : Zd h₁ 130 := ⟨z₁, keep₁ _ _ z53, keep₁ _ _ z121, keep₁ _ _ z97, keep₁ _ _ z109⟩
  have hl₁ : h₁.IsList 125 vs.toArray := let ⟨o, e, r⟩ := hl; ⟨o, keep₁ _ _ e, r⟩
  refine wpAny_execs_cons (wpAny_Assign_Name (Call_ ?_))
  refine nameB (s := sh ⟨hp, #[], d, tk₀, os⟩ h₁ tk₁) (.builtin "sum") S.gd rfl rfl rfl rfl rfl (by kernel_rfl!) (by kernel_rfl!) ?_
  refine PyProof.Rows.callWith_builtin1 (spliced_more (wpAny_Subscript_list_slice ?_))
  refine nameL (s := sh ⟨hp, #[], d, tk₀, os⟩ h₁ tk₁) S rfl rfl rfl rfl rfl ?_
  refine evalPart_none_step (evalPart_some_step (cI ?_))
  refine ⟨125, vs.toArray, none, some 2, rfl, hl₁, by rw [sizeLine_eq]; simp; omega, .none, IsPart.int _ _, spliced_none ?_⟩
  rw [take2]
  have S2 := S.keep ((Kp.push _ { cls := .type "slice", data := .fields #[.none, .int 2 tk₁, .none] }).trans (Kp.push _ { cls := .type "list", data := .seq (vs.take 2).toArray }))
  have Z2 := (Z.push { cls := .type "slice", data := .fields #[.none, .int 2 tk₁, .none] }).push { cls := .type "list", data := .seq (vs.take 2).toArray }
  have gl : ((h₁.push { cls := .type "slice", data := .fields #[.none, .int 2 tk₁, .none] }).push { cls := .type "list", data := .seq (vs.take 2).toArray }).get? 131 = some { cls := .type "list", data := .seq (vs.take 2).toArray } := by
    have := Heap.get?_push_size (h₁.push { cls := .type "slice", data := .fields #[.none, .int 2 tk₁, .none] }) (o := { cls := .type "list", data := .seq (vs.take 2).toArray }) rfl
    rw [size_push', Z.size] at this
    exact this
  have e131 : h₁.objs.size + 1 = 131 := by rw [Z.size]
  show wpAny _ _ (call (.builtin "sum") [.ref (h₁.objs.size + 1)]) _ _ _
  rw [e131]
  refine sumZ Z2.size (Z2.holds ZH S2.kp z53) hi gl fun v h₃ tk₃ z3 k3 hv => ?_
  obtain ⟨tot, tt, rfl⟩ := hv
  have S3 := S2.keep (Kp.of k3)
  have Z3 := Z2.keep k3 z3
  refine storeZ ⟨hp, #[], d, tk₀, os⟩ S3 Z3 rfl (by decide) rfl rfl fun h₄ tk₄ S4 Z4 => ?_
  refine wpAny_execs_cons (wpAny_Assign_Name (cB (storeZ ⟨hp, #[], d, tk₀, os⟩ S4 Z4 rfl (by decide) rfl rfl fun h₅ tk₅ S5 Z5 => ?_)))
  obtain ⟨i, j, ei, ej, hi12, hj12, hij⟩ := mark_at (t := tot)
  refine wpAny_execs_cons (wpAny_Assign_Name (Call_ ?_))
  refine nameB (s := sh ⟨hp, #[], d, tk₀, os⟩ h₅ tk₅) (.type "bytes") S5.gd rfl rfl rfl rfl rfl (by kernel_rfl!) (by kernel_rfl!) ?_
  refine PySem.Pv.callWith_type1 (spliced_more (List_ (spliced_more (Subscript_ ?_))))
  refine nameL (s := sh ⟨hp, #[], d, tk₀, os⟩ h₅ tk₅) S5 rfl rfl rfl rfl rfl (wpAny_BinOp ?_)
  refine nameL (s := sh ⟨hp, #[], d, tk₀, os⟩ h₅ tk₅) S5 rfl rfl rfl rfl rfl (cI (fmI (by decide) ?_))
  rw [ei]
  refine itB (x := frB) (by decide) (by omega) (by show (i : Int) < ((12 : Nat) : Int); omega) (by with_unfolding_all rfl) (by intro _; with_unfolding_all rfl) (spliced_more (Subscript_ ?_))
  refine nameL (s := sh ⟨hp, #[], d, tk₀, os⟩ h₅ _) S5 rfl rfl rfl rfl rfl (wpAny_BinOp (wpAny_BinOp (wpAny_BinOp (wpAny_BinOp ?_))))
  refine nameL (s := sh ⟨hp, #[], d, tk₀, os⟩ h₅ _) S5 rfl rfl rfl rfl rfl (cI (fmI (by decide) (cI (addI (wpAny_BinOp (wpAny_BinOp ?_))))))
  refine nameL (s := sh ⟨hp, #[], d, tk₀, os⟩ h₅ _) S5 rfl rfl rfl rfl rfl (cI (fdI (by decide) (by decide) (cI (fmI (by decide) (addI (cI (fmI (by decide) ?_)))))))
  rw [ej]
  refine itB (x := frB) (by decide) (by omega) (by show (j : Int) < ((12 : Nat) : Int); omega) (by with_unfolding_all rfl) (by intro _; with_unfolding_all rfl) (spliced_none (newL (by simp) ?_))
  rw [Int.toNat_natCast, Int.toNat_natCast]
  have alN := al_nodup hi12 hj12 hij
  generalize frB.getD i 0 = a at alN ⊢
  generalize frB.getD j 0 = b at alN ⊢
  refine spliced_none ?_
  refine bytesZ Z5.size ((Z5.push _).holds ZH (S5.kp.trans (Kp.push _ _)) z53) fun h₆ tk₆ t₆ z6 k6 => ?_
  have S6 := S5.keep (Kp.of k6)
  have Z6 := Z5.keep k6 z6
  have S6' := S6.drop (N' := [(128, cellO none), (127, cellO none), (129, cellO none)]) (by intro p hp; simp only [List.mem_cons, List.not_mem_nil, or_false] at hp ⊢; rcases hp with rfl | rfl | rfl <;> simp)
  refine storeC ⟨hp, #[], d, tk₀, os⟩ (v₀ := none) S6' Z6 (by decide) rfl rfl rfl rfl (by intro p hp; simp only [List.mem_cons, List.not_mem_nil, or_false] at hp; rcases hp with rfl | rfl <;> decide) fun h₇ om S7 hom Z7 _ => ?_
  have S7' := S7.drop (N' := [(127, cellO none), (128, om), (129, cellO none)]) (by intro p hp; simp only [List.mem_cons, List.not_mem_nil, or_false] at hp ⊢; rcases hp with rfl | rfl | rfl <;> simp)
  refine wpAny_execs_cons (wpAny_Assign_Name (wpAny_BinOp (cB ?_)))
  refine nameC (c := 128) (s := sh ⟨hp, #[], d, tk₀, os⟩ h₇ _) rfl rfl rfl ⟨om, S7.at (List.Mem.head _), hom⟩ rfl (catB (by show 62 + 2 ≤ 16777216; decide) fun t8 tk8 => ?_)
  refine storeC ⟨hp, #[], d, tk₀, os⟩ (v₀ := none) S7' Z7 (by decide) rfl rfl rfl rfl (by intro p hp; simp only [List.mem_cons, List.not_mem_nil, or_false] at hp; rcases hp with rfl | rfl <;> exact Nat.ne_of_beq_eq_false rfl) fun h₉ oa S9 hoa Z9 _ => ?_
  refine k h₉ _ a b t8 _ _ oa om (cellO none) S9 ?_ hom rfl Z9 rfl alN
  rw [hoa]
  rfl
end
end Mine
end
section
open PySem PySem.W PySem.W.X PyProof.Rows
set_option maxRecDepth 100000
set_option maxHeartbeats 1000000
namespace Mine
section
variable {w : World} {s : Shared} {h₀ h : Heap} {tk : Nat} {m : Str → Option Value} {oa om op : Obj} {a b : UInt8} {ta : Tok} {Q : Flow → Shared → Prop}
theorem al_get {al : List UInt8} (hl : al.length = 64) {i : Nat} {c : UInt8} (h : al[i]? = some c) : i < 64 ∧ al.getD i 0 = c := by
  obtain ⟨lt, e⟩ := List.getElem?_eq_some_iff.mp h
  exact ⟨hl ▸ lt, by rw [List.getD_eq_getElem?_getD, h]; rfl⟩
theorem al_fun {al : List UInt8} (hl : al.length = 64) (hd : al.Nodup) {i j : Nat} (hi : i < 64) (hj : j < 64) (h : ((al.getD i 0).toNat : Int) = ((al.getD j 0).toNat : Int)) : i = j := by
  have e : al.getD i 0 = al.getD j 0 := UInt8.toNat_inj.mp (by omega)
  rw [List.getD_eq_getElem?_getD, List.getD_eq_getElem?_getD, List.getElem?_eq_getElem (hl ▸ hi), List.getElem?_eq_getElem (hl ▸ hj)] at e
  exact (List.getElem?_inj (hl ▸ hi) hd).mp (by rw [List.getElem?_eq_getElem (hl ▸ hi), List.getElem?_eq_getElem (hl ▸ hj)]; exact congrArg some e)
theorem lawP2 (S : St w h₀ 126 m [(127, oa), (128, om), (129, op)] h) (hoa : oa.data = .cell (some (.bytes (alOf a b).toArray ta))) (hop : op.data = .cell none) (Z : Zd h 141) (alN : (alOf a b).Nodup)
    (k : ∀ h' tk' op', St w h₀ 126 m [(127, oa), (128, om), (129, op')] h' → op'.data = .cell (some (.ref 143)) → Zd h' 147 → Pl w h' 143 (alOf a b) →
      wpAny (MM w) (callerA.deeper (lawEnv w)) (execs ((lawBody w).drop 5) (lawEnv w)) Q (fun _ _ => False) (sh s h' tk')) :
    wpAny (MM w) (callerA.deeper (lawEnv w)) (execs ((lawBody w).drop 4) (lawEnv w)) Q (fun _ _ => False) (sh s h tk) := by
  have eA := S.at (List.Mem.head _)
  have lt141 : ∀ {b o}, h.get? b = some o → b < 141 := fun e => Z.size ▸ Heap.lt_size e
  have z1 : (h.push (rgO 0 64 1 (tk + 1) tk (tk + 1 + 1))).objs.size = 142 := by rw [size_push', Z.size]
  refine wpAny_execs_cons (wpAny_Assign_Name ?_)
  rw [arm_eval_DictComp]
  refine wpAny_comprehension_free (use := none) rfl (fun _ => rfl) rfl rfl (by decide) ?_
  refine Call_ ?_
  refine nameB (s := sh s h tk) (.type "range") S.gd rfl rfl rfl rfl rfl (by kernel_rfl!) (by kernel_rfl!) ?_
  refine PySem.Pv.callWith_type1 (spliced_more (cI (spliced_none (call_range_1 ?_))))
  refine wpAny_pyIter_range (Heap.get?_push_size _ rfl) (by decide) ?_
  refine dictBlockZ (s := sh s ((h.push (rgO 0 64 1 (tk + 1) tk (tk + 1 + 1))).push (riO 0 64 1)) (tk + 1 + 1 + 1)) (I := (h.push (rgO 0 64 1 (tk + 1) tk (tk + 1 + 1))).objs.size) (n := 64) (f := fun i => (((alOf a b).getD i 0).toNat : Int))
    (RR := fun acc C => compPost (MM w) (callerA.deeper (lawEnv w)) (fun _ _ => False) none _ acc C) rfl (noCells (by kernel_rfl!)) rfl rfl (Heap.get?_push_size _ rfl) (by decide) ?_ ?_ ?_ ?_
  · intro C i t s₂ m₂ E' hi hn hm hk
    obtain ⟨h2, g2, d2, t2, o2⟩ := s₂
    have eA2 : h2.get? 127 = some oa := hk 127 _ (by rw [z1]; decide) (Heap.get?_push_of_some _ (Heap.get?_push_of_some _ eA))
    refine Subscript_ (nameC (c := 127) rfl rfl rfl ⟨oa, eA2, hoa⟩ rfl ?_)
    refine wpAny_Name (wpAny_loadName_local rfl rfl hn hm ?_) rfl
    refine itB (s := ⟨h2, g2, d2, t2, o2⟩) (x := alOf a b) (by show 64 ≤ 1099511627776; decide) (by omega) (by show (i : Int) < ((64 : Nat) : Int); omega) (by with_unfolding_all rfl) (by intro _; with_unfolding_all rfl) ?_
    rw [Int.toNat_natCast]
    exact ⟨⟨_, rfl⟩, _, rfl⟩
  · intro C i t s₂ m₂ E' hi hn hm
    exact wpAny_Name (wpAny_loadName_local rfl rfl hn hm ⟨⟨t, rfl⟩, rfl⟩) rfl
  · intro i j hi hj e
    exact al_fun rfl alN hi hj e
  · intro h' tk' C m' kvs hC hn hd hv hk hz
    refine ⟨m', hn, fun h'' hs => ?_⟩
    have z2 : ((h.push (rgO 0 64 1 (tk + 1) tk (tk + 1 + 1))).push (riO 0 64 1)).objs.size = 143 := by rw [size_push', z1]
    have hz' : h'.objs.size = 147 := by
      rw [hz]
      show ((h.push (rgO 0 64 1 (tk + 1) tk (tk + 1 + 1))).push (riO 0 64 1)).objs.size + 4 = 147
      rw [z2]
    have hC' : C = 144 := by
      rw [hC]
      show ((h.push (rgO 0 64 1 (tk + 1) tk (tk + 1 + 1))).push (riO 0 64 1)).objs.size + 1 = 144
      rw [z2]
    have hd' : h'.DictOf (intKind pg w) 143 kvs := by
      have := hd
      rw [show (sh s ((h.push (rgO 0 64 1 (tk + 1) tk (tk + 1 + 1))).push (riO 0 64 1)) (tk + 1 + 1 + 1)).heap.objs.size = 143 from z2] at this
      exact this
    have hk' : ∀ b o, h.get? b = some o → h''.get? b = some o := fun b o e => by
      have lt := lt141 e
      refine (hs.2 b (by rw [hC']; exact Nat.ne_of_lt (Nat.lt_trans lt (by decide)))).trans (hk b o (by rw [z1]; exact Nat.ne_of_lt (Nat.lt_trans lt (by decide))) ?_)
      exact Heap.get?_push_of_some _ (Heap.get?_push_of_some _ e)
    have S2 := S.keep (Kp.of hk')
    have Z2 : Zd h'' 147 := Z.keep hk' (hs.1.trans hz')
    have P2 : Pl w h'' 143 (alOf a b) := ⟨rfl, alN, by decide, by decide, kvs, hd'.at fun o e => (hs.2 143 (by rw [hC']; decide)).trans e, fun i c hc => by
      obtain ⟨lt, e⟩ := al_get (alOf_len a b) hc
      obtain ⟨t, q⟩ := hv i lt
      exact ⟨t, by rw [← e]; exact q⟩⟩
    have e143 : (sh s ((h.push (rgO 0 64 1 (tk + 1) tk (tk + 1 + 1))).push (riO 0 64 1)) (tk + 1 + 1 + 1)).heap.objs.size = 143 := z2
    rw [e143]
    have S3 := S2.drop (N' := [(129, op), (127, oa), (128, om)]) (by intro p hp; simp only [List.mem_cons, List.not_mem_nil, or_false] at hp ⊢; rcases hp with rfl | rfl | rfl <;> simp)
    refine storeC s (v₀ := none) S3 Z2 (by decide) rfl rfl rfl hop (by intro p hp; simp only [List.mem_cons, List.not_mem_nil, or_false] at hp; rcases hp with rfl | rfl <;> exact Nat.ne_of_beq_eq_false rfl) fun h₇ op' S7 hop' Z7 hs7 => ?_
    have S8 := S7.drop (N' := [(127, oa), (128, om), (129, op')]) (by intro p hp; simp only [List.mem_cons, List.not_mem_nil, or_false] at hp ⊢; rcases hp with rfl | rfl | rfl <;> simp)
    refine k h₇ _ op' S8 hop' Z7 ⟨P2.1, P2.2.1, P2.2.2.1, P2.2.2.2.1, ?_⟩
    obtain ⟨_, _, _, _, kvs', hd'', f⟩ := P2
    exact ⟨kvs', hd''.at fun o e => (hs7.2 143 (by decide)).trans e, f⟩
end
end Mine
end
section
open PySem PySem.W PySem.W.X PyProof.Rows
set_option maxRecDepth 100000
set_option maxHeartbeats 1000000
namespace Mine
/-! the heap without law's own frame: what law's later stores cannot touch -/
noncomputable abbrev Hd (h : Heap) : Heap := hideAll h [126]
theorem hd_of {h : Heap} {b : Addr} {o : Obj} (e : (Hd h).get? b = some o) : b ≠ 126 ∧ h.get? b = some o :=
  ⟨fun q => (by
    have z := hideAll_none [126] (h := h) (b := b) (by rw [q]; exact List.mem_singleton.mpr rfl)
    have z2 := z.symm.trans e
    simp at z2), of_hideAll _ e⟩
theorem hd_at {h : Heap} {b : Addr} {o : Obj} (e : h.get? b = some o) (n : b ≠ 126) : (Hd h).get? b = some o := hideAll_get _ e (by simpa using n)
theorem hd_same {h h' : Heap} (hs : Heap.SameBut 126 h h') : Kp (Hd h) (Hd h') := Kp.of fun b o e => hd_at ((hs.2 b (hd_of e).1).trans (hd_of e).2) (hd_of e).1
theorem hd_tab {h h' : Heap} {P : Addr} {vs : Array Value} (hP : P = 53 ∨ P = 121) (k : ∀ b o, b ≠ P → h.get? b = some o → h'.get? b = some o) (e : h'.get? P = some (tabObj vs)) : Kp (Hd h) (Hd h') := by
  refine ⟨fun b o e' n => hd_at (k b o (fun q => n (by rw [q]; rcases hP with rfl | rfl <;> decide)) (hd_of e').2) (hd_of e').1, fun P' o' e' mm => ?_⟩
  by_cases z : P' = P
  · subst z
    exact ⟨_, hd_at e (hd_of e').1, .inr (.inr ⟨hP, _, rfl⟩)⟩
  · exact ⟨o', hd_at (k P' o' z (hd_of e').2) (hd_of e').1, .inl rfl⟩
theorem not_frame {h : Heap} {m : Str → Option Value} {c : Addr} {o : Obj} (hn : h.Ns 126 m) (e : h.get? c = some o) (hd : ∀ es ep, o.data ≠ .dict es ep) : c ≠ 126 := fun q => by
  obtain ⟨o', es, ep, e', d, _⟩ := hn
  rw [q, e'] at e
  cases e
  exact hd es ep d
theorem code_hd {h : Heap} {m : Str → Option Value} {c : Addr} {q : Str} (hn : h.Ns 126 m) (x : h.CodeRec (.ref c) q) : (Hd h).CodeRec (.ref c) q := by
  obtain ⟨c', o, vs, t, e, g, d, r⟩ := x
  cases e
  exact ⟨c, o, vs, t, rfl, hd_at g (not_frame hn g fun es ep z => by rw [d] at z; cases z), d, r⟩
theorem lam_hd {h : Heap} {m : Str → Option Value} {q : Addr} {e : Expr} {cl : List (Str × Addr)} (hn : h.Ns 126 m) (x : Lam h q e cl) : Lam (Hd h) q e cl :=
  let ⟨n, nm, qual, pm, c', ctv, n', ho, hc⟩ := x
  ⟨n, nm, qual, pm, c', ctv, n', hd_at ho (not_frame hn ho fun es ep z => by cases z), code_hd hn hc⟩
theorem pl_hd {w : World} {h : Heap} {d : Addr} {al : List UInt8} (P : Pl w h d al) (n : d ≠ 126) : Pl w (Hd h) d al :=
  let ⟨a, b, c, e, kvs, hd, f⟩ := P
  ⟨a, b, c, e, kvs, hd.at fun o q => hd_at q n, f⟩
theorem gd_hd {w : World} {h : Heap} (G : Gd w h) : Gd w (Hd h) := fun a o e n => hd_at (G a o e n) fun q => by
  have z : (KF w).lookup 126 = none := by kernel_rfl!
  rw [q, z] at e
  cases e
theorem isk_hd {w : World} {T : BT} {h : Heap} (I : IsK w T h) : IsK w T (Hd h) := ⟨I.good, fun i o e => hd_at (I.own i o e) (Nat.ne_of_gt (Nat.lt_of_lt_of_le (by decide) (Nat.le_add_right 155 i)))⟩
theorem holds53 {w : World} {h₀ h : Heap} (t53 : h.get? 53 = some (tabObj #[])) (ZH : KT.Holds h₀ 1 0 (mk.ktop_249 w.params)) (k : Kp h₀ h) (z53 : h₀.get? 53 = some (tabObj #[])) : KT.Holds h 1 0 (mkB.ktop_249 w.params) :=
  holds_cut (fun a o e n => by
    by_cases q : a = 53
    · subst q
      rw [z53] at e
      cases e
      exact t53
    · refine k.at_ a o e fun m => ?_
      unfold tabs at m
      simp only [List.mem_cons, List.not_mem_nil, or_false] at m
      rcases m with rfl | rfl | rfl | rfl
      · exact q rfl
      · cases n
      · cases n
      · cases n) ZH
noncomputable abbrev sKy : Str := ⟨⟨[107, 101, 121]⟩⟩
section
variable {w : World} {s : Shared} {h₀ h : Heap} {tk : Nat} {m : Str → Option Value} {oa om op : Obj} {al : List UInt8} {Q : Flow → Shared → Prop} {env : Env} {x : Str} {v : Value} {N : List (Addr × Obj)}
/-- a store into law's frame -/
theorem storeF {Q : Unit → Shared → Prop} {A : Around} {E : Value → Shared → Prop} (s : Shared) (S : St w h₀ 126 m N h) (hL : env.locals = 126) (hl : env.kindOf x = some .local) (hp : (env.scope.kind == .class || (env.scope.kind == .module && env.locals != env.globals)) = false)
    (k : ∀ h' tk', St w h₀ 126 (fun y => if y = x then some v else m y) N h' → Heap.SameBut 126 h h' → Q () (sh s h' tk')) : wpAny (MM w) A (storeName env x v) Q E (sh s h tk) :=
  wpAny_storeName_local (s := sh s h tk) hl (hL ▸ S.ns) (fun h' hn hs => k h' _ (S.store (hL ▸ hn) (hL ▸ hs)) (hL ▸ hs)) hp
theorem lawP3 (hg : s.gens = #[]) (ZH : KT.Holds h₀ 1 0 (mk.ktop_249 w.params)) (z53 : h₀.get? 53 = some (tabObj #[])) (S : St w h₀ 126 m [(127, oa), (128, om), (129, op)] h) (hop : op.data = .cell (some (.ref 143))) (Z : Zd h 147) (P : Pl w h 143 al) (hm : m sScript = some (.ref 125))
    (k : ∀ h' tk' T m' c', St w h₀ 126 m' [(127, oa), (128, om), (129, op)] h' → m' sScript = some (.ref 125) → m' sKy = some (.ref 215) → Wd w T al 129 143 (Hd h') → h'.get? 121 = some (tabObj #[.int 130 0, .int 21 0, .ref c']) → h'.get? 97 = some (tabObj #[]) → h'.get? 109 = some (tabObj #[]) →
      wpAny (MM w) (callerA.deeper (lawEnv w)) (execs ((lawBody w).drop 6) (lawEnv w)) Q (fun _ _ => False) (sh s h' tk')) :
    wpAny (MM w) (callerA.deeper (lawEnv w)) (execs ((lawBody w).drop 5) (lawEnv w)) Q (fun _ _ => False) (sh s h tk) := by
  obtain ⟨hp, g, d, tk₀, os⟩ := s
  dsimp only at hg
  subst hg
  refine wpAny_execs_cons (wpAny_Assign_Name (Call_ ?_))
  refine nameG (s := sh ⟨hp, #[], d, tk₀, os⟩ h tk) S.gd rfl rfl rfl rfl (v := .ref 58) (by kernel_rfl!) ?_
  refine callWith_def (o := mk.zo_59 w.params) rfl (spliced_more ?_)
  refine mkLawZ (x := sPlaces) (cx := 129) (l := _) ⟨hp, #[], d, tk₀, os⟩ S.gd Z.t121 trivial rfl rfl rfl rfl rfl rfl fun q h₁ tk₁ c' eq ke kp Lm t121 z1 => ?_
  rw [Z.size] at eq z1
  subst eq
  have S1 := S.keep kp
  have t53 := ke 53 _ (by decide) Z.t53
  refine spliced_none ⟨S1.gd 58 _ rfl (by decide), ?_⟩
  refine cmpKey z1 (holds53 t53 ZH S1.kp z53) rfl fun h₂ T tk₂ z2 own good k2 t53' => ?_
  obtain ⟨vs, t53'⟩ := t53'
  have kp2 : Kp h₁ h₂ := by
    refine ⟨fun b o e n => k2 b o e fun q => n (by rw [q]; decide), fun P' o' e' mm => ?_⟩
    by_cases z : P' = 53
    · subst z
      exact ⟨_, t53', .inr (.inr ⟨.inl rfl, _, rfl⟩)⟩
    · exact ⟨o', k2 P' o' e' z, .inl rfl⟩
  have S2 := S1.keep kp2
  have kh1 : Kp (Hd h) (Hd h₁) := hd_tab (.inr rfl) (fun b o n e => ke b o n e) t121
  have kh2 : Kp (Hd h₁) (Hd h₂) := hd_tab (.inl rfl) (fun b o n e => k2 b o e n) t53'
  have t97 : (Hd h₂).get? 97 = some (tabObj #[]) := hd_at (k2 97 _ (ke 97 _ (by decide) Z.t97) (by decide)) (by decide)
  have t109 : (Hd h₂).get? 109 = some (tabObj #[]) := hd_at (k2 109 _ (ke 109 _ (by decide) Z.t109) (by decide)) (by decide)
  have t121' : h₂.get? 121 = some (tabObj (#[] ++ #[.int 130 0, .int 21 0, .ref c'])) := k2 121 _ t121 (by decide)
  have W2 : Wd w T al 129 143 (Hd h₂) := by
    refine ⟨gd_hd S2.gd, isk_hd ⟨good, own⟩, (lam_hd S1.ns Lm).kp kh2, ⟨by decide, op, hd_at (S2.at (List.Mem.tail _ (List.Mem.tail _ (List.Mem.head _)))) (by decide), hop⟩, ((pl_hd P (by decide)).kp kh1).kp kh2, fun P' hP' => ?_, ⟨_, t97, .inl rfl⟩, ⟨_, t109, .inl rfl⟩⟩
    unfold tabs at hP'
    simp only [List.mem_cons, List.not_mem_nil, or_false] at hP'
    rcases hP' with rfl | rfl | rfl | rfl
    · exact ⟨_, hd_at t53' (by decide)⟩
    · exact ⟨_, t97⟩
    · exact ⟨_, t109⟩
    · exact ⟨_, hd_at t121' (by decide)⟩
  refine storeF ⟨hp, #[], d, tk₀, os⟩ S2 rfl rfl rfl fun h₃ tk₃ S3 hs3 => ?_
  exact k h₃ tk₃ T _ c' S3 hm rfl (W2.kp (hd_same hs3)) ((hs3.2 121 (by decide)).trans t121') ((hs3.2 97 (by decide)).trans (hd_of t97).2) ((hs3.2 109 (by decide)).trans (hd_of t109).2)
end
end Mine
end
section
open PySem PySem.W PySem.W.X PyProof.Rows
set_option maxRecDepth 100000
set_option maxHeartbeats 1000000
namespace Mine
/-- _law_walk's lambda -/
noncomputable def lam4 (w : World) : Expr := callA (asV (stN 0 (bodyOf (mk.zo_115 w.params))))
noncomputable abbrev sKey : Str := ⟨⟨[107, 101, 121]⟩⟩
noncomputable abbrev sSpell : Str := ⟨⟨[115, 112, 101, 108, 108]⟩⟩
section
variable {prog : Program} {w : World} {A : Around} {s : Shared} {Q E : Value → Shared → Prop}
end
/-- a spelling function: its word of a number -/
structure Spell (w : World) (s : Shared) (hB : Heap) (al : List UInt8) (sp : Addr) (b k : Nat) : Prop where
  ob : ∃ o fd, hB.get? sp = some o ∧ o.data = .func fd
  nt : sp ∉ tabs
  run : ∀ (A : Around) (Q E : Value → Shared → Prop) h tk n t, Kp hB h → A.depth + 5 < recursionLimit → A.handled = none → n < 16777216 →
    (∀ h' tk' t', Kp h h' → Q (.bytes (sg al (dg b k n)).toArray t') (sh s h' tk')) → wpAny (MM w) A (call (.ref sp) [.int (n : Int) t]) Q E (sh s h tk)
theorem Spell.at {w : World} {s : Shared} {hB : Heap} {al : List UInt8} {sp : Addr} {b k : Nat} (S : Spell w s hB al sp b k) (g : Heap) (t : Nat) : Spell w (sh s g t) hB al sp b k := ⟨S.ob, S.nt, S.run⟩
section
variable {w : World} {A : Around} {s : Shared} {Q E : Value → Shared → Prop} {T : BT} {al : List UInt8} {cp d sp : Addr}
theorem len_two {α : Type} {l : List α} (h : l.length = 2) : ∃ a b, l = [a, b] := by
  match l, h with
  | [a, b], _ => exact ⟨a, b, rfl⟩
theorem len_three {α : Type} {l : List α} (h : l.length = 3) : ∃ a b c, l = [a, b, c] := by
  match l, h with
  | [a, b, c], _ => exact ⟨a, b, c, rfl⟩
theorem dg_split (b : Nat) (j : Nat) : ∀ (m N : Nat), dg b (j + m) N = dg b j (N / b ^ m) ++ dg b m N
  | 0, N => by simp [dg]
  | m + 1, N => by
    show dg b (j + m) (N / b) ++ [N % b] = dg b j (N / b ^ (m + 1)) ++ (dg b m (N / b) ++ [N % b])
    rw [dg_split b j m (N / b), Nat.div_div_eq_div_mul, Nat.pow_succ, Nat.mul_comm b, List.append_assoc]
theorem chunk2 {b sz N : Nat} : chunk (dg b (sz + sz) N) sz 0 = dg b sz (N / b ^ sz) ∧ chunk (dg b (sz + sz) N) sz 1 = dg b sz N := by
  have l1 := dg_len b sz (N / b ^ sz)
  have l2 := dg_len b sz N
  rw [dg_split]
  constructor
  · simp only [chunk, Nat.zero_mul, List.drop_zero]
    rw [List.take_append_of_le_length (by omega), List.take_of_length_le (by omega)]
  · simp only [chunk, Nat.one_mul]
    rw [List.drop_append_of_le_length (by omega), List.drop_of_length_le (by omega), List.nil_append, List.take_of_length_le (by omega)]
theorem chunk3 {b sz N : Nat} : chunk (dg b (sz + sz + sz) N) sz 0 = dg b sz (N / b ^ sz / b ^ sz) ∧ chunk (dg b (sz + sz + sz) N) sz 1 = dg b sz (N / b ^ sz) ∧ chunk (dg b (sz + sz + sz) N) sz 2 = dg b sz N := by
  have l0 := dg_len b sz (N / b ^ sz / b ^ sz)
  have l1 := dg_len b sz (N / b ^ sz)
  have l2 := dg_len b sz N
  have l3 := dg_len b (sz + sz) (N / b ^ sz)
  have c := chunk2 (b := b) (sz := sz) (N := N / b ^ sz)
  refine ⟨?_, ?_, ?_⟩
  · rw [dg_split, dg_split]
    simp only [chunk, Nat.zero_mul, List.drop_zero]
    rw [List.append_assoc, List.take_append_of_le_length (by omega), List.take_of_length_le (by omega)]
  · rw [dg_split, dg_split, List.append_assoc]
    simp only [chunk, Nat.one_mul]
    rw [List.drop_append_of_le_length (by omega), List.drop_of_length_le (by omega), List.nil_append, List.take_append_of_le_length (by omega), List.take_of_length_le (by omega)]
  · rw [dg_split]
    simp only [chunk]
    rw [List.drop_append_of_le_length (by omega), List.drop_of_length_le (by omega), List.nil_append, List.take_of_length_le (by omega)]
/-- the next number, of n pieces of worth W -/
noncomputable def nx (n W N : Nat) : Nat := if n = 2 then gp2 W N * (W - 1) else gp3 W N * (W * W - 1)
theorem lamWalk {hB : Heap} {q r : Addr} {cl : List (Str × Addr)} {c1 c2 c3 c4 c5 : Addr} {b sz n k N : Nat} {tb ts tu : Tok} {turn : Int} {vs : List Value} {tN : Tok} (W : Wd w T al cp d s.heap) (Sp : Spell w s hB al sp b k) (kB : Kp hB s.heap)
    (Lm : Lam s.heap q (lam4 w) cl) (e1 : cl.lookup sPl = some c1) (e2 : cl.lookup sKey = some c2) (e3 : cl.lookup sSpell = some c3) (e4 : cl.lookup sBase = some c4) (e5 : cl.lookup sSize = some c5)
    (C1 : Cl s.heap c1 (.ref d)) (C2 : Cl s.heap c2 (.ref 215)) (C3 : Cl s.heap c3 (.ref sp)) (C4 : Cl s.heap c4 (.int b tb)) (C5 : Cl s.heap c5 (.int sz ts))
    (hr : IsL s.heap r (vs ++ [Value.int (N : Int) tN]).toArray) (hv : vs.length ≤ 10) (hN : N < 16777216) (Sh : Shape al (dg b k N) sz n) (hb : b ≤ 64) (hb0 : 0 < b) (hs : b ^ k = 16777216) (hroom : A.depth + 7 < recursionLimit) (hu : A.units + 10 < cLine) (hh : A.handled = none)
    (h : ∀ h' tk t' D, Kp s.heap h' → h'.get? D = some { cls := .type "list", data := .seq (vs ++ [Value.int (N : Int) tN] ++ [Value.int ((nx n (b ^ sz) N : Nat) : Int) t']).toArray } → s.heap.objs.size ≤ D → Q (.ref D) (sh s h' tk)) :
    wpAny (MM w) A (call (.ref q) [.ref r, .int turn tu]) Q E s := by
  obtain ⟨_, nm, qual, pm, c', ctv, _, ho, hcd⟩ := Lm
  refine enterE W.gd (by omega) ho rfl hcd rfl (BindsTo.of_eq rfl) (noCells (by kernel_rfl!)) (locs rfl) rfl rfl rfl ?_
  intro h₁ tk S
  refine wpAny_BinOp ?_
  refine nameL S rfl rfl rfl rfl rfl (List_ (spliced_more (Call_ ?_)))
  refine nameG S.gd rfl rfl rfl rfl (v := .ref 107) (by kernel_rfl!) ?_
  refine callWith_def (o := mk.zo_108 w.params) rfl (spliced_more ?_)
  refine nameF rfl rfl e1 (C1.kp S.kp).2 rfl rfl (spliced_more ?_)
  refine nameF rfl rfl e2 (C2.kp S.kp).2 rfl rfl (spliced_more ?_)
  refine nameF rfl rfl e4 (C4.kp S.kp).2 rfl rfl (spliced_more ?_)
  refine nameF rfl rfl e5 (C5.kp S.kp).2 rfl rfl (spliced_more (Call_ ?_))
  refine nameF rfl rfl e3 (C3.kp S.kp).2 rfl rfl ?_
  obtain ⟨osp, fsp, hosp, hdsp⟩ := Sp.ob
  refine callWith_def (o := osp) hdsp (spliced_more (Subscript_ ?_))
  refine nameL S rfl rfl rfl rfl rfl (wpAny_UnaryOp (cI (negI ?_)))
  have hr1 := (hr.kp S.kp)
  refine subscriptTail_builtin hr1.2.typeIs slot_list_getitem.lookup (wpAny_getItem_list_neg (x := .int (N : Int) tN) hr1.2 (by decide) (by simp; omega) (by decide) (by
    have e : ((-1 : Int) + ((vs ++ [Value.int (N : Int) tN]).toArray.size : Int)).toNat = vs.length := by simp; omega
    rw [e]; simp) ?_)
  refine spliced_none ⟨S.old (kB.at_ _ _ hosp Sp.nt) Sp.nt, ?_⟩
  refine Sp.run _ _ _ h₁ _ N tN (kB.trans S.kp) (show A.depth + 1 + 5 < recursionLimit by omega) hh hN fun h2 tk2 t2 k2 => ?_
  have S2 := S.keep k2
  refine spliced_none ⟨S2.gd 107 _ rfl (by decide), ?_⟩
  refine lawNext (s := sh s h2 tk2) (A := A.deeper _) (W.kp S2.kp) (W.kp S2.kp).t97 Sh hb hb0 (dg_lt hb0 k N) (by rw [dg_len, hs]; exact Nat.le_refl _) (show A.depth + 1 + 4 < recursionLimit by omega) (show A.units + 3 + 5 < cLine by omega) hh fun h3 tk3 t3 ps x y k3 ePs px py ox oy => ?_
  have hval : ((vl b (cat x) : Nat) : Int) - ((vl b (cat y) : Nat) : Int) = ((nx n (b ^ sz) N : Nat) : Int) := by
    have hall := Sh.all
    rw [dg_len] at hall
    have hm : ∀ p ∈ ps, p.1.length = sz ∧ ∀ x ∈ p.1, x < b := fun p hp => by
      have : p.1 ∈ (List.range n).map (chunk (dg b k N) sz) := by rw [← ePs]; exact List.mem_map.mpr ⟨p, hp, rfl⟩
      obtain ⟨i, hi, e⟩ := List.mem_map.mp this
      rw [← e]
      exact ⟨Sh.len i (List.mem_range.mp hi), fun x hx => dg_lt hb0 k N x (List.mem_of_mem_drop (List.mem_of_mem_take hx))⟩
    rcases Sh.n23 with rfl | rfl
    · have hk : k = sz + sz := by omega
      subst hk
      have ch := chunk2 (b := b) (sz := sz) (N := N)
      obtain ⟨p, q, rfl⟩ := len_two (show ps.length = 2 by simpa using congrArg List.length ePs)
      · have e := ePs
        simp only [List.map_cons, List.map_nil, List.range_succ, List.range_zero, List.nil_append, List.cons_append, List.cons.injEq, and_true] at e
        rw [kap2 hb hb0 hm px py ox oy, e.1, e.2, ch.1, ch.2, vl_dg, vl_dg]
        rfl
    · have hk : k = sz + sz + sz := by omega
      subst hk
      have ch := chunk3 (b := b) (sz := sz) (N := N)
      obtain ⟨p, q, r, rfl⟩ := len_three (show ps.length = 3 by simpa using congrArg List.length ePs)
      · have e := ePs
        simp only [List.map_cons, List.map_nil, List.range_succ, List.range_zero, List.nil_append, List.cons_append, List.cons.injEq, and_true] at e
        rw [kap3 hb hb0 hm px py ox oy, e.1, e.2.1, e.2.2, ch.1, ch.2.1, ch.2.2, vl_dg, vl_dg, vl_dg, Nat.pow_add]
        rfl
  rw [hval]
  have S3 := S2.keep k3
  refine spliced_none (newL (by simp) ?_)
  have S4 := S3.push (o := { cls := .type "list", data := .seq ([.int ((nx n (b ^ sz) N : Nat) : Int) t3] : List Value).toArray })
  refine addL (vs := vs ++ [.int (N : Int) tN]) (ws := [.int ((nx n (b ^ sz) N : Nat) : Int) t3]) S4 (hr.kp S4.kp).2 ⟨_, S4.at (List.Mem.head _), rfl, _, rfl⟩ (by simp; omega) fun h5 S5 => ?_
  refine h _ _ t3 _ S5.kp (S5.at (List.Mem.head _)) ?_
  have l1 : s.heap.objs.size < h3.objs.size := S3.ns.lt
  show s.heap.objs.size ≤ (Heap.push _ _).objs.size
  rw [size_push']
  exact Nat.le_succ_of_le (Nat.le_of_lt l1)
end
end Mine
end
section
open PySem PySem.W PySem.W.X PyProof.Rows
set_option maxRecDepth 100000
set_option maxHeartbeats 1000000
namespace Mine
/-- the numbers of a walk -/
noncomputable def itn (n W N : Nat) : Nat → Nat
  | 0 => N
  | i + 1 => nx n W (itn n W N i)
theorem itn_lt {n W N : Nat} (hN : N < 16777216) (h : ∀ N, N < 16777216 → nx n W N < 16777216) : ∀ i, itn n W N i < 16777216
  | 0 => hN
  | i + 1 => h _ (itn_lt hN h i)
noncomputable abbrev o123 (tk : Nat) : Obj := { cls := .type "list", data := .seq #[.int 1 tk, .int 2 (tk + 1), .int 3 (tk + 1 + 1)] }
noncomputable abbrev oN (N : Nat) (t : Tok) : Obj := { cls := .type "list", data := .seq #[.int (N : Int) t] }
noncomputable abbrev rowZ (n W N i : Nat) : List Int := (List.range i).map fun j => ((itn n W N j : Nat) : Int)
section
variable {w : World} {A : Around} {s : Shared} {Q E : Value → Shared → Prop} {T : BT} {al : List UInt8} {cp d sp : Addr}
theorem lawWalk {hB : Heap} {b sz n k N : Nat} {tb ts tN : Tok} (W : Wd w T al cp d s.heap) (Sp : Spell w s hB al sp b k) (kB : Kp hB s.heap) (hN : N < 16777216) (Sh : ∀ N, Shape al (dg b k N) sz n) (hnx : ∀ N, N < 16777216 → nx n (b ^ sz) N < 16777216)
    (hb : b ≤ 64) (hb0 : 0 < b) (hs : b ^ k = 16777216) (hroom : A.depth + 9 < recursionLimit) (hu : A.units + 20 < cLine) (hh : A.handled = none)
    (h : ∀ h' tk r us, Kp s.heap h' → IsL h' r us.toArray → IntsAre us (rowZ n (b ^ sz) N 4) → Q (.ref r) (sh s h' tk)) :
    wpAny (MM w) A (call (.ref 114) [.ref d, .ref 215, .ref sp, .int b tb, .int sz ts, .int N tN]) Q E s := by
  have G := W.gd
  refine enterC G (by omega) (G 114 _ rfl (by decide)) rfl ⟨113, _, _, _, rfl, G 113 _ rfl (by decide), rfl, rfl⟩ rfl rfl rfl ?_ ?_
  · intro x hx
    rcases List.mem_cons.mp hx with rfl | hx
    · exact .inr ⟨rfl, rfl⟩
    rcases List.mem_cons.mp hx with rfl | hx
    · exact .inr ⟨rfl, rfl⟩
    rcases List.mem_cons.mp hx with rfl | hx
    · exact .inr ⟨rfl, rfl⟩
    rcases List.mem_cons.mp hx with rfl | hx
    · exact .inr ⟨rfl, rfl⟩
    rcases List.mem_cons.mp hx with rfl | hx
    · exact .inr ⟨rfl, rfl⟩
    rw [List.mem_singleton.mp hx]
    exact .inl rfl
  intro h₁ tk S C
  refine wpAny_execs_cons (wpAny_Return_some (Call_ ?_))
  refine nameG S.gd rfl rfl rfl rfl (v := .ref 67) (by kernel_rfl!) ?_
  refine callWith_def (o := mk.zo_68 w.params) rfl (spliced_more ?_)
  refine mkLam s S.gd (W.kp S.kp).t109 (by decide) rfl S.gd.cd109 rfl rfl rfl rfl (by kernel_rfl!) rfl fun q h₂ tk₂ k2 Lm => ?_
  have S2 := S.keep k2
  refine spliced_more (List_ (spliced_more (cI (spliced_more (cI (spliced_more (cI (spliced_none (newL (by simp) ?_)))))))))
  have S3 := S2.push (o := o123 tk₂)
  refine spliced_more (List_ (spliced_more ?_))
  refine nameL (s := sh s _ _) S3 rfl rfl rfl rfl rfl (spliced_none (newL (by simp) ?_))
  have S4 := S3.push (o := oN N tN)
  refine spliced_none ⟨S4.gd 67 _ rfl (by decide), ?_⟩
  have kk2 : Kp h₂ ((h₂.push (o123 tk₂)).push (oN N tN)) := (Kp.push _ _).trans (Kp.push _ _)
  have Lm4 : Lam ((h₂.push (o123 tk₂)).push (oN N tN)) q (lam4 w) _ := Lm.kp kk2
  have nr : (h₂.push (o123 tk₂)).objs.size ∉ tabs := (S4.nw _ (List.Mem.head _)).2.2.1
  have r59 : (h₂.push (o123 tk₂)).objs.size ≠ 59 := by
    have := S3.gd.size
    exact fun q => absurd this (by rw [q]; decide)
  have lL : IsL ((h₂.push (o123 tk₂)).push (oN N tN)) h₂.objs.size ([.int 1 tk₂, .int 2 (tk₂ + 1), .int 3 (tk₂ + 1 + 1)] : List Value).toArray := ⟨(S4.nw _ (List.Mem.tail _ (List.Mem.head _))).2.2.1, _, S4.at (List.Mem.tail _ (List.Mem.head _)), rfl, _, rfl⟩
  have lR : IsL ((h₂.push (o123 tk₂)).push (oN N tN)) (h₂.push (o123 tk₂)).objs.size ([] ++ [Value.int (N : Int) tN]).toArray := ⟨nr, _, S4.at (List.Mem.head _), rfl, _, rfl⟩
  obtain ⟨nq', nm, qual, pm, c', ctv, nc', hoq, hcq⟩ := id Lm4
  have ka : Kp h₁ ((h₂.push (o123 tk₂)).push (oN N tN)) := k2.trans kk2
  refine reduceC (A := A.deeper _) (s := sh s ((h₂.push (o123 tk₂)).push (oN N tN)) _) S4.gd lL hoq rfl nq' ?_ (show A.depth + 1 < recursionLimit by omega) hh
    (fun i v Nw => ∃ r vs t, v = Value.ref r ∧ IntsAre vs (rowZ n (b ^ sz) N i) ∧ ((r = (h₂.push (o123 tk₂)).objs.size ∧ i = 0 ∧ vs = [] ∧ t = tN ∧ Nw = []) ∨
      Nw = [(r, { cls := .type "list", data := .seq (vs ++ [Value.int ((itn n (b ^ sz) N i : Nat) : Int) t]).toArray })])) ⟨_, [], tN, rfl, .nil, .inl ⟨rfl, rfl, rfl, rfl, rfl⟩⟩ ?_ ?_
  · intro A' h5 tk5 R k5 hR
    obtain ⟨o, ho, hc, _⟩ := (lR.kp k5).2
    exact wpAny_is_ref_other r59 ho (S4.gd.kp k5 59 _ rfl (by decide)) (by rw [hc]; decide) hR
  · rintro i x v Nw h5 tk5 env' hx k5 ⟨r, vs, t, rfl, hI, hc⟩ hNw
    have K5 := S4.kp.trans k5
    have hr : IsL h5 r (vs ++ [Value.int ((itn n (b ^ sz) N i : Nat) : Int) t]).toArray ∧ i ≤ 2 := by
      have hi : i < 3 := (List.getElem?_eq_some_iff.mp hx).1
      refine ⟨?_, by omega⟩
      rcases hc with ⟨rfl, rfl, rfl, rfl, rfl⟩ | rfl
      · exact lR.kp k5
      · have z := hNw _ (List.Mem.head _)
        exact ⟨z.2, _, z.1, rfl, _, rfl⟩
    have hlen : vs.length = i := by have := hI.length; simpa using this
    have xi : ∃ k u, x = .int k u := by
      rcases List.mem_cons.mp (List.mem_of_getElem? hx) with rfl | hx
      · exact ⟨_, _, rfl⟩
      rcases List.mem_cons.mp hx with rfl | hx
      · exact ⟨_, _, rfl⟩
      exact ⟨_, _, List.mem_singleton.mp hx⟩
    obtain ⟨kx, ux, rfl⟩ := xi
    refine lamWalk (s := sh s h5 tk5) (hB := hB) (A := (A.deeper _).deeper env') (W.kp K5) (Sp.at h5 tk5) (kB.trans K5) (Lm4.kp k5) rfl rfl rfl rfl rfl (((C sPl _ _ rfl rfl).kp ka).kp k5) (((C sKey _ _ rfl rfl).kp ka).kp k5) (((C sSpell _ _ rfl rfl).kp ka).kp k5) (((C sBase _ _ rfl rfl).kp ka).kp k5) (((C sSize _ _ rfl rfl).kp ka).kp k5)
      hr.1 (by omega) (itn_lt hN hnx i) (Sh _) hb hb0 hs (show A.depth + 1 + 1 + 7 < recursionLimit by omega) (show A.units + 3 + 3 + 10 < cLine by omega) hh fun h6 tk6 t6 D k6 hD gD => ?_
    refine ⟨h6, tk6, [(D, _)], rfl, k6, ⟨D, vs ++ [Value.int ((itn n (b ^ sz) N i : Nat) : Int) t], t6, rfl, ?_, .inr rfl⟩, fun p hp => ?_⟩
    · show IntsAre _ ((List.range (i + 1)).map _)
      rw [List.range_succ, List.map_append]
      exact ksk_snoc hI
    · rw [List.mem_singleton.mp hp]
      exact ⟨hD, gD⟩
  · rintro v h5 tk5 Nw k5 ⟨r, vs, t, rfl, hI, hc⟩ hNw
    rcases hc with ⟨_, hi, _⟩ | rfl
    · exact absurd hi (by simp)
    · have z := hNw _ (List.Mem.head _)
      refine h h5 tk5 r (vs ++ [Value.int ((itn n (b ^ sz) N 3 : Nat) : Int) t]) (S4.kp.trans k5) ⟨z.2, _, z.1, rfl, _, rfl⟩ ?_
      show IntsAre _ ((List.range (3 + 1)).map _)
      rw [List.range_succ, List.map_append]
      exact ksk_snoc hI
end
end Mine
end
section
open PySem PySem.W PySem.W.X PyProof.Rows
set_option maxRecDepth 100000
set_option maxHeartbeats 1000000
namespace Mine
/-- law's third lambda -/
noncomputable def lam5 (w : World) : Expr := asV (stN 7 (bodyOf (mk.zo_125 w.params)))
noncomputable abbrev sMarks : Str := ⟨⟨[109, 97, 114, 107, 115]⟩⟩
section
variable {w : World} {A : Around} {s : Shared} {Q E : Value → Shared → Prop}
theorem lamSigns {q cm : Addr} {n : Nat} {t u : Tok} {a b : UInt8} {cl : List (Str × Addr)} (G : Gd w s.heap) (Lm : Lam s.heap q (lam5 w) cl) (e1 : cl.lookup sMarks = some cm) (C : Cl s.heap cm (.bytes #[a, b] u)) (hroom : A.depth + 3 < recursionLimit) (hh : A.handled = none) (hn : n < 16777216)
    (h : ∀ h' tk t', Kp s.heap h' → Q (.bytes (sg (alOf a b) (dg 64 4 n)).toArray t') (sh s h' tk)) : wpAny (MM w) A (call (.ref q) [.int n t]) Q E s := by
  obtain ⟨_, nm, qual, pm, c', ctv, _, ho, hc⟩ := Lm
  refine enterE G (by omega) ho rfl hc rfl (BindsTo.of_eq rfl) (noCells (by kernel_rfl!)) (locs rfl) rfl rfl rfl ?_
  intro h₁ tk S
  refine Call_ ?_
  refine nameG S.gd rfl rfl rfl rfl (v := .ref 51) (by kernel_rfl!) ?_
  refine callWith_def (o := mk.zo_52 w.params) rfl (spliced_more (Call_ ?_))
  refine nameG S.gd rfl rfl rfl rfl (v := .ref 88) (by kernel_rfl!) ?_
  refine callWith_def (o := mk.zo_89 w.params) rfl (spliced_more ?_)
  refine nameL S rfl rfl rfl rfl rfl (spliced_none ⟨S.gd 88 _ rfl (by decide), ?_⟩)
  refine octets (s := sh s h₁ tk) S.gd (show A.depth + 1 < recursionLimit by omega) hh hn fun h₂ tk₂ t₂ k => ?_
  have S2 := S.keep k
  refine spliced_more (nameF (s := sh s h₂ tk₂) rfl rfl e1 (C.kp S2.kp).2 rfl rfl (spliced_none ⟨S2.gd 51 _ rfl (by decide), ?_⟩))
  exact b64C (s := sh s h₂ tk₂) (A := A.deeper _) S2.gd (show A.depth + 1 + 2 < recursionLimit by omega) hh hn fun h₃ tk₃ t₃ k₃ => h _ _ _ (S2.kp.trans k₃)
theorem words_al (a b : UInt8) {k n : Nat} : (dg 16 k n).map (fun i => (65 + i).toUInt8) = sg (alOf a b) (dg 16 k n) := by
  refine List.map_congr_left fun x hx => ?_
  have hx := dg_lt (by decide) k n x hx
  have q : ∀ j : Fin 16, (65 + (j : Nat)).toUInt8 = b62.getD (j : Nat) 0 := by decide +kernel
  have e : (alOf a b).getD x 0 = b62.getD x 0 := by
    unfold alOf
    rw [List.getD_eq_getElem?_getD, List.getD_eq_getElem?_getD, List.getElem?_append_left (show x < b62.length from Nat.lt_of_lt_of_le hx (by decide))]
  rw [e]
  exact q ⟨x, hx⟩
theorem wordsSpell {hB : Heap} {q : Addr} (a b : UInt8) (G : Gd w hB) (Lm : Lam hB q (lam2 w) []) : Spell w s hB (alOf a b) q 16 6 where
  ob := let ⟨_, nm, qual, pm, c', ctv, _, ho, _⟩ := Lm; ⟨_, _, ho, rfl⟩
  nt := Lm.1
  run := fun A Q E h tk n t k hd hh hn H => lamWords (s := sh s h tk) (G.kp k) (Lm.kp k) (by omega) hh hn fun h' tk' t' k' => by
    rw [words_al a b]
    exact H h' tk' t' k'
theorem signsSpell {hB : Heap} {q cm : Addr} {a b : UInt8} {u : Tok} {cl : List (Str × Addr)} (G : Gd w hB) (Lm : Lam hB q (lam5 w) cl) (e1 : cl.lookup sMarks = some cm) (C : Cl hB cm (.bytes #[a, b] u)) : Spell w s hB (alOf a b) q 64 4 where
  ob := let ⟨_, nm, qual, pm, c', ctv, _, ho, _⟩ := Lm; ⟨_, _, ho, rfl⟩
  nt := Lm.1
  run := fun A Q E h tk n t k hd hh hn H => lamSigns (s := sh s h tk) (G.kp k) (Lm.kp k) e1 (C.kp k) (by omega) hh hn fun h' tk' t' k' => H h' tk' t' k'
end
theorem len_six {α : Type} {l : List α} (h : l.length = 6) : ∃ a b c d e f, l = [a, b, c, d, e, f] := by
  match l, h with
  | [a, b, c, d, e, f], _ => exact ⟨a, b, c, d, e, f, rfl⟩
theorem len_four {α : Type} {l : List α} (h : l.length = 4) : ∃ a b c d, l = [a, b, c, d] := by
  match l, h with
  | [a, b, c, d], _ => exact ⟨a, b, c, d, rfl⟩
theorem shape62 {al : List UInt8} {ds : List Nat} (h : ds.length = 6) : Shape al ds 2 3 := by
  obtain ⟨a, b, c, d, e, f, rfl⟩ := len_six h
  refine ⟨.inr rfl, by decide, (by show Builtin.Range.small 0 ((6 : Nat) : Int) ((2 : Nat) : Int) = true; decide), (by show Builtin.Range.rangeSize 0 ((6 : Nat) : Int) ((2 : Nat) : Int) = ((3 : Nat) : Int); decide), fun i hi => ?_, fun i hi => ?_, (by show 6 ≤ 6; decide), (by show 3 * 2 = 6; decide)⟩
  · have : i = 0 ∨ i = 1 ∨ i = 2 := by omega
    rcases this with rfl | rfl | rfl <;> exact ⟨rfl, rfl⟩
  · have : i = 0 ∨ i = 1 ∨ i = 2 := by omega
    rcases this with rfl | rfl | rfl <;> rfl
theorem shape63 {al : List UInt8} {ds : List Nat} (h : ds.length = 6) : Shape al ds 3 2 := by
  obtain ⟨a, b, c, d, e, f, rfl⟩ := len_six h
  refine ⟨.inl rfl, by decide, (by show Builtin.Range.small 0 ((6 : Nat) : Int) ((3 : Nat) : Int) = true; decide), (by show Builtin.Range.rangeSize 0 ((6 : Nat) : Int) ((3 : Nat) : Int) = ((2 : Nat) : Int); decide), fun i hi => ?_, fun i hi => ?_, (by show 6 ≤ 6; decide), (by show 2 * 3 = 6; decide)⟩
  · have : i = 0 ∨ i = 1 := by omega
    rcases this with rfl | rfl <;> exact ⟨rfl, rfl⟩
  · have : i = 0 ∨ i = 1 := by omega
    rcases this with rfl | rfl <;> rfl
theorem shape42 {al : List UInt8} {ds : List Nat} (h : ds.length = 4) : Shape al ds 2 2 := by
  obtain ⟨a, b, c, d, rfl⟩ := len_four h
  refine ⟨.inl rfl, by decide, (by show Builtin.Range.small 0 ((4 : Nat) : Int) ((2 : Nat) : Int) = true; decide), (by show Builtin.Range.rangeSize 0 ((4 : Nat) : Int) ((2 : Nat) : Int) = ((2 : Nat) : Int); decide), fun i hi => ?_, fun i hi => ?_, (by show 4 ≤ 6; decide), (by show 2 * 2 = 4; decide)⟩
  · have : i = 0 ∨ i = 1 := by omega
    rcases this with rfl | rfl <;> exact ⟨rfl, rfl⟩
  · have : i = 0 ∨ i = 1 := by omega
    rcases this with rfl | rfl <;> rfl
end Mine
end
section
open PySem PySem.W PySem.W.X PyProof.Rows
set_option maxRecDepth 100000
set_option maxHeartbeats 1000000
namespace Mine
noncomputable abbrev sWords : Str := ⟨⟨[119, 111, 114, 100, 115]⟩⟩
noncomputable abbrev sSigns : Str := ⟨⟨[115, 105, 103, 110, 115]⟩⟩
section
variable {w : World} {s : Shared} {h₀ h : Heap} {tk : Nat} {m : Str → Option Value} {oa om op : Obj} {al : List UInt8} {Q : Flow → Shared → Prop} {T : BT} {c' : Addr} {a b : UInt8} {tb : Tok}
theorem lawP4 (S : St w h₀ 126 m [(127, oa), (128, om), (129, op)] h) (hom : om.data = .cell (some (.bytes #[a, b] tb))) (hm : m sScript = some (.ref 125)) (hk : m sKy = some (.ref 215)) (W : Wd w T al 129 143 (Hd h)) (t121 : h.get? 121 = some (tabObj #[.int 130 0, .int 21 0, .ref c'])) (t97 : h.get? 97 = some (tabObj #[])) (t109 : h.get? 109 = some (tabObj #[]))
    (k : ∀ h' tk' m' q1 q2, St w h₀ 126 m' [(127, oa), (128, om), (129, op)] h' → m' sScript = some (.ref 125) → m' sKy = some (.ref 215) → m' sWords = some (.ref q1) → m' sSigns = some (.ref q2) → Wd w T al 129 143 (Hd h') →
      Lam (Hd h') q1 (lam2 w) [] → Lam (Hd h') q2 (lam5 w) [(sMarks, 128)] → Cl (Hd h') 128 (.bytes #[a, b] tb) → h'.get? 97 = some (tabObj #[]) → h'.get? 109 = some (tabObj #[]) →
      wpAny (MM w) (callerA.deeper (lawEnv w)) (execs ((lawBody w).drop 8) (lawEnv w)) Q (fun _ _ => False) (sh s h' tk')) :
    wpAny (MM w) (callerA.deeper (lawEnv w)) (execs ((lawBody w).drop 6) (lawEnv w)) Q (fun _ _ => False) (sh s h tk) := by
  refine wpAny_execs_cons (wpAny_Assign_Name ?_)
  refine mkLaw s S.gd t121 trivial rfl rfl rfl rfl rfl fun q1 h₁ tk₁ c1 ke kp Lm t121' => ?_
  have S1 := S.keep kp
  have kh1 : Kp (Hd h) (Hd h₁) := hd_tab (.inr rfl) (fun b o n e => ke b o n e) t121'
  have L1 : Lam (Hd h₁) q1 (lam2 w) [] := lam_hd S1.ns Lm
  refine storeF s S1 rfl rfl rfl fun h₂ tk₂ S2 hs2 => ?_
  have t2 := (hs2.2 121 (by decide)).trans t121'
  refine wpAny_execs_cons (wpAny_Assign_Name ?_)
  refine mkLaw s S2.gd t2 trivial rfl rfl rfl rfl rfl fun q2 h₃ tk₃ c3 ke3 kp3 Lm3 t3 => ?_
  have S3 := S2.keep kp3
  have kh3 : Kp (Hd h₂) (Hd h₃) := hd_tab (.inr rfl) (fun b o n e => ke3 b o n e) t3
  have L3 : Lam (Hd h₃) q2 (lam5 w) [(sMarks, 128)] := lam_hd S3.ns Lm3
  refine storeF s S3 rfl rfl rfl fun h₄ tk₄ S4 hs4 => ?_
  have k12 := hd_same hs2
  have k34 := hd_same hs4
  refine k h₄ tk₄ _ q1 q2 S4 hm hk rfl rfl ((((W.kp kh1).kp k12).kp kh3).kp k34) (((L1.kp k12).kp kh3).kp k34) (L3.kp k34) ⟨by decide, om, hd_at (S4.at (List.Mem.tail _ (List.Mem.head _))) (by decide), hom⟩ ((hs4.2 97 (by decide)).trans (ke3 97 _ (by decide) ((hs2.2 97 (by decide)).trans (ke 97 _ (by decide) t97)))) ((hs4.2 109 (by decide)).trans (ke3 109 _ (by decide) ((hs2.2 109 (by decide)).trans (ke 109 _ (by decide) t109))))
end
end Mine
end
section
open PySem PySem.W PySem.W.X PyProof.Rows
set_option maxRecDepth 100000
set_option maxHeartbeats 1000000
namespace Mine
/-- the figures in a comprehension's row -/
theorem paired_ints {n : Nat} {f : Nat → Int} {vs ys : List Value} (k : Nat) (hp : Paired (fun v y => ∃ (i : Nat) (t t' : Tok), i < n ∧ v = Value.int (0 + (i : Int) * 1) t ∧ y = Value.int (f i) t') vs ys)
    (hP : ∀ (j : Nat) v, vs[j]? = some v → ∃ t, v = Value.int (0 + ((k + j : Nat) : Int) * 1) t) : IntsAre ys ((List.range' k vs.length).map f) := by
  induction hp generalizing k with
  | nil => exact .nil
  | cons hF hr ih =>
    have ih := ih (k + 1) fun j v hv => by
      have := hP (j + 1) v (by simpa using hv)
      have e : k + (j + 1) = k + 1 + j := by omega
      rw [e] at this
      exact this
    obtain ⟨i, t, t', _, q1, q2⟩ := hF
    obtain ⟨t2, q3⟩ := hP 0 _ rfl
    rw [q1] at q3
    have q4 : (0 : Int) + (i : Int) * 1 = 0 + ((k + 0 : Nat) : Int) * 1 := (Value.int.inj q3).1
    have hik : i = k := by omega
    subst hik
    rw [q2, List.length_cons, List.range'_succ, List.map_cons]
    exact .cons _ _ ih
noncomputable abbrev sCount : Str := ⟨⟨[99, 111, 117, 110, 116]⟩⟩
noncomputable abbrev sWhole : Str := ⟨⟨[119, 104, 111, 108, 101]⟩⟩
noncomputable abbrev sNumber : Str := ⟨⟨[110, 117, 109, 98, 101, 114]⟩⟩
noncomputable abbrev sGap : Str := ⟨⟨[103, 97, 112]⟩⟩
noncomputable abbrev sRow : Str := ⟨⟨[114, 111, 119]⟩⟩
/-- the kinds of cut that law asks for -/
noncomputable def Kd (n W : Nat) : Prop := (n = 2 ∧ (W = 256 ∨ W = 4096)) ∨ (n = 3 ∧ W = 256)
/-- the gap of n pieces -/
noncomputable def gpn (n W N : Nat) : Nat := if n = 2 then gp2 W N else gp3 W N
theorem sub_lt3 {a b w : Nat} (h : a < w) : a - b < w := Nat.lt_of_le_of_lt (Nat.sub_le _ _) h
theorem gpn_lt {n W N : Nat} (K : Kd n W) : gpn n W N < W := by
  have h0 : 0 < W := by rcases K with ⟨_, rfl | rfl⟩ | ⟨_, rfl⟩ <;> decide
  have m : ∀ x, x % W < W := fun x => Nat.mod_lt _ h0
  unfold gpn gp2 gp3
  split
  · exact sub_lt3 (Nat.max_lt.mpr ⟨m _, m _⟩)
  · exact sub_lt3 (Nat.max_lt.mpr ⟨Nat.max_lt.mpr ⟨m _, m _⟩, m _⟩)
theorem nx_gpn {n W N : Nat} (K : Kd n W) : nx n W N = gpn n W N * (W ^ (n - 1) - 1) := by
  rcases K with ⟨rfl, rfl | rfl⟩ | ⟨rfl, rfl⟩
  · show gp2 256 N * (256 - 1) = gp2 256 N * (256 ^ 1 - 1)
    rfl
  · show gp2 4096 N * (4096 - 1) = gp2 4096 N * (4096 ^ 1 - 1)
    rfl
  · show gp3 256 N * (256 * 256 - 1) = gp3 256 N * (256 ^ 2 - 1)
    rfl
/-- the next gap, by the figures alone -/
theorem gpn_next {n W N : Nat} (K : Kd n W) : ((gpn n W (nx n W N) : Nat) : Int) =
    if 0 < gpn n W N then (if n = 2 then (if (W : Int) + 1 - 2 * (gpn n W N : Int) < 0 then -((W : Int) + 1 - 2 * (gpn n W N : Int)) else (W : Int) + 1 - 2 * (gpn n W N : Int)) else (if (gpn n W N : Int) - 1 > (W : Int) - (gpn n W N : Int) then (gpn n W N : Int) - 1 else (W : Int) - (gpn n W N : Int))) else 0 := by
  have hl := gpn_lt (N := N) K
  rcases K with ⟨rfl, hW⟩ | ⟨rfl, rfl⟩
  · have e1 : gpn 2 W N = gp2 W N := rfl
    have e2 : gpn 2 W (nx 2 W N) = gp2 W (gp2 W N * (W - 1)) := rfl
    rw [e1] at hl
    rw [e1, e2, if_pos rfl]
    generalize gp2 W N = g at hl ⊢
    by_cases z : 0 < g
    · rw [if_pos z, gp2_next z hl]
      clear hW e1 e2
      split <;> split <;> omega
    · have : g = 0 := by omega
      subst this
      rw [if_neg (by omega)]
      rcases hW with rfl | rfl <;> decide
  · have e1 : gpn 3 256 N = gp3 256 N := rfl
    have e2 : gpn 3 256 (nx 3 256 N) = gp3 256 (gp3 256 N * 65535) := rfl
    rw [e1] at hl
    rw [e1, e2, if_neg (show ¬ (3 : Nat) = 2 by decide)]
    generalize gp3 256 N = g at hl ⊢
    by_cases z : 0 < g
    · rw [if_pos z, gp3_next z hl]
      split <;> omega
    · have : g = 0 := by omega
      subst this
      rw [if_neg (by omega)]
      decide
noncomputable abbrev fig (W N : Nat) (i : Nat) : Int := ((N / W ^ i % W : Nat) : Int)
theorem mxI {M x y : Int} (h : M = x ∨ M = y) (h1 : x ≤ M) (h2 : y ≤ M) : M = max x y := by
  rcases h with rfl | rfl
  · exact (Int.max_eq_left h2).symm
  · exact (Int.max_eq_right h1).symm
theorem mnI {M x y : Int} (h : M = x ∨ M = y) (h1 : M ≤ x) (h2 : M ≤ y) : M = min x y := by
  rcases h with rfl | rfl
  · exact (Int.min_eq_left h2).symm
  · exact (Int.min_eq_right h1).symm
theorem mx3 {M x y z : Int} (h : M = x ∨ M = y ∨ M = z) (h1 : x ≤ M) (h2 : y ≤ M) (h3 : z ≤ M) : M = max (max x y) z :=
  mxI (by rcases h with rfl | rfl | rfl
          · exact .inl (Int.max_eq_left h2).symm
          · exact .inl (Int.max_eq_right h1).symm
          · exact .inr rfl) (Int.max_le.mpr ⟨h1, h2⟩) h3
theorem mn3 {M x y z : Int} (h : M = x ∨ M = y ∨ M = z) (h1 : M ≤ x) (h2 : M ≤ y) (h3 : M ≤ z) : M = min (min x y) z :=
  mnI (by rcases h with rfl | rfl | rfl
          · exact .inl (Int.min_eq_left h2).symm
          · exact .inl (Int.min_eq_right h1).symm
          · exact .inr rfl) (Int.le_min.mpr ⟨h1, h2⟩) h3
theorem cast_max (a b : Nat) : max (a : Int) b = ((max a b : Nat) : Int) := by omega
theorem cast_min (a b : Nat) : min (a : Int) b = ((min a b : Nat) : Int) := by omega
theorem gap_figs {n W N : Nat} (K : Kd n W) {M m : Int} (h1 : M ∈ (List.range' 0 n).map (fig W N)) (h2 : ∀ a, a ∈ (List.range' 0 n).map (fig W N) → a ≤ M) (h3 : m ∈ (List.range' 0 n).map (fig W N)) (h4 : ∀ a, a ∈ (List.range' 0 n).map (fig W N) → m ≤ a) :
    M - m = ((gpn n W N : Nat) : Int) := by
  have e0 : fig W N 0 = ((N % W : Nat) : Int) := by show ((N / W ^ 0 % W : Nat) : Int) = _; rw [Nat.pow_zero, Nat.div_one]
  have e1 : fig W N 1 = ((N / W % W : Nat) : Int) := by show ((N / W ^ 1 % W : Nat) : Int) = _; rw [Nat.pow_one]
  have e2 : fig W N 2 = ((N / W / W % W : Nat) : Int) := by show ((N / W ^ 2 % W : Nat) : Int) = _; rw [Nat.pow_two, Nat.div_div_eq_div_mul]
  rcases K with ⟨rfl, hW⟩ | ⟨rfl, _⟩
  · have l : (List.range' 0 2).map (fig W N) = [fig W N 0, fig W N 1] := rfl
    rw [l, e0, e1] at h1 h2 h3 h4
    have a1 := mxI ((List.mem_cons.mp h1).imp id List.mem_singleton.mp) (h2 _ (List.Mem.head _)) (h2 _ (List.Mem.tail _ (List.Mem.head _)))
    have a2 := mnI ((List.mem_cons.mp h3).imp id List.mem_singleton.mp) (h4 _ (List.Mem.head _)) (h4 _ (List.Mem.tail _ (List.Mem.head _)))
    rw [a1, a2, cast_max, cast_min]
    show _ = ((gp2 W N : Nat) : Int)
    unfold gp2
    rw [Nat.max_comm (N / W % W), Nat.min_comm (N / W % W)]
    exact (Int.natCast_sub (Nat.le_trans (Nat.min_le_left _ _) (Nat.le_max_left _ _))).symm
  · have l : (List.range' 0 3).map (fig W N) = [fig W N 0, fig W N 1, fig W N 2] := rfl
    rw [l, e0, e1, e2] at h1 h2 h3 h4
    have a1 := mx3 ((List.mem_cons.mp h1).imp id fun q => (List.mem_cons.mp q).imp id List.mem_singleton.mp) (h2 _ (List.Mem.head _)) (h2 _ (List.Mem.tail _ (List.Mem.head _))) (h2 _ (List.Mem.tail _ (List.Mem.tail _ (List.Mem.head _))))
    have a2 := mn3 ((List.mem_cons.mp h3).imp id fun q => (List.mem_cons.mp q).imp id List.mem_singleton.mp) (h4 _ (List.Mem.head _)) (h4 _ (List.Mem.tail _ (List.Mem.head _))) (h4 _ (List.Mem.tail _ (List.Mem.tail _ (List.Mem.head _))))
    rw [a1, a2, cast_max, cast_max, cast_min, cast_min]
    show _ = ((gp3 W N : Nat) : Int)
    unfold gp3
    rw [Nat.max_comm (max (N / W / W % W) _), Nat.max_comm (N / W / W % W), Nat.min_comm (min (N / W / W % W) _), Nat.min_comm (N / W / W % W), ← Nat.max_assoc, ← Nat.min_assoc]
    exact (Int.natCast_sub (Nat.le_trans (Nat.min_le_right _ _) (Nat.le_max_right _ _))).symm
end Mine
end
section
open PySem PySem.W PySem.W.X PyProof.Rows
set_option maxRecDepth 100000
set_option maxHeartbeats 1000000
namespace Mine
/-- the loop's body in _law_due, its frame -/
noncomputable def dueB (w : World) : List Stmt := forBo (stN 3 (bodyOf (mk.zo_120 w.params)))
noncomputable abbrev dueEnv (w : World) (L : Addr) : Env := callEnvC (fdAt (mk.zo_120 w.params)) L 119
theorem pow_le4 {n W : Nat} (K : Kd n W) : 0 < W ^ (n - 1) ∧ W ^ (n - 1) ≤ 65536 := by rcases K with ⟨rfl, rfl | rfl⟩ | ⟨rfl, rfl⟩ <;> decide
theorem kd_n {n W : Nat} (K : Kd n W) : (n = 2 ∨ n = 3) ∧ 0 < W ∧ W ≤ 4096 := by
  rcases K with ⟨rfl, rfl | rfl⟩ | ⟨rfl, rfl⟩ <;> decide
theorem small64 {x : Nat} (h : x ≤ 65536) : ((x : Nat) : Int).natAbs < 2 ^ 64 := by rw [Int.natAbs_natCast]; omega
section
variable {w : World} {A : Around} {s : Shared} {P : Flow → Shared → Prop} {E : Value → Shared → Prop} {h₀ h : Heap} {L R : Addr} {m : Str → Option Value} {N : List (Addr × Obj)} {oR oW : Obj} {tk n W M i : Nat} {vs : List Value} {tg tn tw : Tok}
theorem dueTurn (K : Kd n W) (hh : A.handled = none) (S : St w h₀ L m ((R, oR) :: N) h) (hnR : ∀ p ∈ N, p.1 ≠ R) (mW : (L + 1, oW) ∈ N) (dW : oW.data = .cell (some (.int (W : Int) tw))) (hR : LaO oR vs.toArray) (hI : IntsAre vs (rowZ n W M (i + 1))) (hi3 : i ≤ 3)
    (e1 : m sGap = some (.int ((gpn n W (itn n W M i) : Nat) : Int) tg)) (e2 : m sRow = some (.ref R)) (e3 : m sCount = some (.int (n : Int) tn))
    (kk : ∀ h' tk' m' o' vs' tg', St w h₀ L m' ((R, o') :: N) h' → LaO o' vs'.toArray → IntsAre vs' (rowZ n W M (i + 1 + 1)) → m' sGap = some (.int ((gpn n W (itn n W M (i + 1)) : Nat) : Int) tg') → m' sRow = some (.ref R) → m' sCount = some (.int (n : Int) tn) → P .next (sh s h' tk')) :
    wpAny (MM w) A (execs (dueB w) (dueEnv w L)) P E (sh s h tk) := by
  have hn := (kd_n K).1
  have hW := (kd_n K).2
  have hp := pow_le4 K
  have hg := gpn_lt (N := itn n W M i) K
  have hn1 : (n : Int) - 1 = ((n - 1 : Nat) : Int) := by clear hp hg; omega
  have hn1000 : n - 1 ≤ 1000 := by clear hp hg; omega
  have hg64 : ((gpn n W (itn n W M i) : Nat) : Int).natAbs < 2 ^ 64 := small64 (Nat.le_trans (Nat.le_of_lt hg) (Nat.le_trans hW.2 (by decide)))
  have eb : (W : Int) ^ (n - 1) - 1 = ((W ^ (n - 1) - 1 : Nat) : Int) := by rw [Int.natCast_sub hp.1, Int.natCast_pow]; rfl
  have ev : ((gpn n W (itn n W M i) : Nat) : Int) * ((W ^ (n - 1) - 1 : Nat) : Int) = ((itn n W M (i + 1) : Nat) : Int) := by
    show _ = ((nx n W (itn n W M i) : Nat) : Int)
    rw [nx_gpn K, Int.natCast_mul]
  have ex := gpn_next (N := itn n W M i) K
  have eit : nx n W (itn n W M i) = itn n W M (i + 1) := rfl
  rw [eit] at ex
  have hlen : vs.toArray.size ≤ 1000 := by have := hI.length; simp at this; simp; clear hn hW hp hg hn1; omega
  have hg0 : ∀ x : Nat, decide ((0 : Int) < (x : Int)) = decide (0 < x) := fun x => by
    apply decide_eq_decide.mpr; omega
  have hn2 : ((n : Int) == 2) = decide (n = 2) := by
    rw [show ((n : Int) == 2) = decide ((n : Int) = 2) from rfl]
    apply decide_eq_decide.mpr; clear hn hW hp hg hn1 hg0; omega
  generalize hgv : gpn n W (itn n W M i) = gv at e1 hg hg64 ev ex
  have hI5 : ∀ t, IntsAre (vs ++ [.int ((itn n W M (i + 1) : Nat) : Int) t]) (rowZ n W M (i + 1 + 1)) := fun t => by
    show IntsAre _ ((List.range (i + 1 + 1)).map _)
    rw [List.range_succ, List.map_append]
    exact ksk_snoc hI
  refine wpAny_execs_cons (wpAny_Expr_any (MethodCall_ ?_))
  refine nameL (s := sh s h tk) S rfl rfl rfl e2 rfl (appMeth (S.at (List.Mem.head _)) hR ?_)
  refine PyProof.Rows.callWith_method1 (spliced_more (wpAny_BinOp ?_))
  refine nameL (s := sh s h tk) S rfl rfl rfl e1 rfl (wpAny_BinOp (wpAny_BinOp ?_))
  refine nameC (s := sh s h tk) rfl rfl rfl ⟨oW, S.at (List.Mem.tail _ mW), dW⟩ rfl (wpAny_BinOp ?_)
  refine nameL (s := sh s h tk) S rfl rfl rfl e3 rfl (cI (subI ?_))
  rw [hn1]
  refine powI hn1000 (small64 (Nat.le_trans hW.2 (by decide))) (cI (subI ?_))
  rw [eb]
  refine mulI hg64 (small64 (Nat.le_trans (Nat.sub_le _ _) hp.2)) ?_
  rw [ev]
  refine spliced_none (appS s S hnR hR hlen fun h5 o5 S5 hR5 => ?_)
  generalize htk : tk + 1 + 1 + 1 + 1 + 1 = tk5 at hR5 ⊢
  have hR6 : LaO o5 (vs ++ [Value.int ((itn n W M (i + 1) : Nat) : Int) tk5]).toArray := by
    have := hR5
    simpa using this
  refine wpAny_execs_cons (wpAny_If (isTrue_and (wpAny_isTrue_Compare1 ?_)))
  refine nameL (s := sh s h5 _) S5 rfl rfl rfl e1 rfl (cI (gtI (wpAny_truthy_bool ?_)))
  rw [hg0]
  by_cases z1 : 0 < gv
  · rw [decide_eq_true z1, if_pos rfl]
    refine isTrue_and (wpAny_isTrue_Compare1 ?_)
    refine nameL (s := sh s h5 _) S5 rfl rfl rfl e3 rfl (cI (eqI (wpAny_truthy_bool ?_)))
    rw [hn2]
    rw [if_pos z1] at ex
    by_cases z2 : n = 2
    · rw [if_pos z2] at ex
      rw [decide_eq_true z2, if_pos rfl]
      refine isTrue_and_nil ?_
      rw [if_pos rfl]
      refine wpAny_execs_cons (wpAny_Assign_Name (Call_ ?_))
      refine nameB (s := sh s h5 _) (.builtin "abs") S5.gd rfl rfl rfl rfl rfl (by kernel_rfl!) (by kernel_rfl!) ?_
      refine PyProof.Rows.callWith_builtin1 (spliced_more (wpAny_BinOp (wpAny_BinOp ?_)))
      refine nameC (s := sh s h5 _) rfl rfl rfl ⟨oW, S5.at (List.Mem.tail _ mW), dW⟩ rfl (cI (addI (wpAny_BinOp (cI ?_))))
      refine nameL (s := sh s h5 _) S5 rfl rfl rfl e1 rfl (mulI (by decide) hg64 (subI (spliced_none (absI fun u6 tk6 => ?_))))
      rw [← ex]
      refine storeL s S5 rfl rfl rfl fun h7 tk7 S7 => ?_
      exact wpAny_execs_nil (wpAny_execs_nil (kk h7 tk7 _ o5 _ u6 S7 hR6 (hI5 _) rfl e2 e3))
    · rw [if_neg z2] at ex
      rw [decide_eq_false z2, if_neg Bool.false_ne_true]
      rw [if_neg Bool.false_ne_true]
      refine wpAny_execs_cons (wpAny_If (wpAny_isTrue_Compare1 ?_))
      refine nameL (s := sh s h5 _) S5 rfl rfl rfl e1 rfl (cI (gtI (wpAny_truthy_bool ?_)))
      rw [hg0, decide_eq_true z1, if_pos rfl]
      refine wpAny_execs_cons (wpAny_Assign_Name (Call_ ?_))
      refine nameB (s := sh s h5 _) (.builtin "max") S5.gd rfl rfl rfl rfl rfl (by kernel_rfl!) (by kernel_rfl!) ?_
      refine PyProof.Rows.callWith_builtin1 (spliced_more (wpAny_BinOp ?_))
      refine nameC (s := sh s h5 _) rfl rfl rfl ⟨oW, S5.at (List.Mem.tail _ mW), dW⟩ rfl ?_
      refine nameL (s := sh s h5 _) S5 rfl rfl rfl e1 rfl (subI (spliced_more (wpAny_BinOp ?_)))
      refine nameL (s := sh s h5 _) S5 rfl rfl rfl e1 rfl (cI (subI (spliced_none (maxII hh fun h6 u6 tk6 k6 => ?_))))
      rw [← ex]
      refine storeL s (S5.keep k6) rfl rfl rfl fun h7 tk7 S7 => ?_
      exact wpAny_execs_nil (wpAny_execs_nil (wpAny_execs_nil (kk h7 tk7 _ o5 _ u6 S7 hR6 (hI5 _) rfl e2 e3)))
  · rw [decide_eq_false z1, if_neg Bool.false_ne_true, if_neg Bool.false_ne_true]
    rw [if_neg z1] at ex
    have z0 : gv = 0 := Nat.eq_zero_of_not_pos z1
    have z3 : gpn n W (itn n W M (i + 1)) = 0 := Int.ofNat_eq_zero.mp ex
    refine wpAny_execs_cons (wpAny_If (wpAny_isTrue_Compare1 ?_))
    refine nameL (s := sh s h5 _) S5 rfl rfl rfl e1 rfl (cI (gtI (wpAny_truthy_bool ?_)))
    rw [hg0, decide_eq_false z1, if_neg Bool.false_ne_true]
    exact wpAny_execs_nil (wpAny_execs_nil (wpAny_execs_nil (kk h5 _ m o5 _ tg S5 hR6 (hI5 _) (by rw [z3, ← z0]; exact e1) e2 e3)))
end
section
variable {w : World} {A : Around} {s : Shared} {Q E : Value → Shared → Prop}
theorem lawDue {n W N : Nat} {tw tn tN : Tok} (G : Gd w s.heap) (ta : Ta s.heap) (K : Kd n W) (hN : N < 16777216) (hroom : A.depth + 1 < recursionLimit) (hh : A.handled = none)
    (h : ∀ h' tk r us, Kp s.heap h' → IsL h' r us.toArray → IntsAre us (rowZ n W N 4) → Q (.ref r) (sh s h' tk)) :
    wpAny (MM w) A (call (.ref 119) [.int W tw, .int n tn, .int N tN]) Q E s := by
  have hW : 0 < W ∧ W ≤ 4096 := by rcases K with ⟨_, rfl | rfl⟩ | ⟨_, rfl⟩ <;> omega
  have hn : n = 2 ∨ n = 3 := by rcases K with ⟨rfl, _⟩ | ⟨rfl, _⟩ <;> omega
  refine enterC G (by omega) (G 119 _ rfl (by decide)) rfl ⟨118, _, _, _, rfl, G 118 _ rfl (by decide), rfl, rfl⟩ rfl rfl rfl ?_ ?_
  · intro x hx
    rcases List.mem_cons.mp hx with rfl | hx
    · exact .inr ⟨rfl, rfl⟩
    rcases List.mem_cons.mp hx with rfl | hx
    · exact .inl rfl
    rw [List.mem_singleton.mp hx]
    exact .inr ⟨rfl, rfl⟩
  intro h₁ tk S₀ C
  have cW : Cl h₁ (s.heap.objs.size + 1) (.int W tw) := C sWhole _ _ rfl rfl
  have cN : Cl h₁ (s.heap.objs.size + 1 + 1) (.int N tN) := C sNumber _ _ rfl rfl
  obtain ⟨_, oW, eW, dW⟩ := id cW
  obtain ⟨_, oN, eN, dN⟩ := id cN
  have S := (S₀.add (Nat.lt_succ_self _) (by first | exact Nat.le_refl _ | exact Nat.le_succ _) eW).add (Nat.lt_succ_self _) (by first | exact Nat.le_refl _ | exact Nat.le_succ _) eN
  refine wpAny_execs_cons (wpAny_Assign_ListComp_free (fun _ => true) (fun v y => ∃ (i : Nat) (t t' : Tok), i < n ∧ v = .int (0 + (i : Int) * 1) t ∧ y = .int (fig W N i) t') rfl rfl (noCells (by kernel_rfl!)) rfl ?_ rfl rfl rfl ?_)
  · decide
  refine Call_ ?_
  refine nameB (.type "range") S.gd rfl rfl rfl rfl rfl (by kernel_rfl!) (by kernel_rfl!) ?_
  refine PySem.Pv.callWith_type1 (spliced_more (nameL S rfl rfl rfl rfl rfl (spliced_none ?_)))
  refine call_range_1 ?_
  have rs : Builtin.Range.small 0 (n : Int) 1 = true ∧ Builtin.Range.rangeSize 0 (n : Int) 1 = n := range_small (by omega)
  refine wpAny_pyIter_range (Heap.get?_push_size _ rfl) rs.1 ?_
  rw [rs.2]
  have hLt : s.heap.objs.size < h₁.objs.size := S.ns.lt
  have hk2 : ∀ b o, h₁.get? b = some o → b ≠ h₁.objs.size + 1 := fun b o e q => absurd (Heap.lt_size e) (by rw [q]; exact Nat.not_lt.mpr (Nat.le_succ _))
  refine ⟨_, _, _, n, _, _, _, rfl, (Walks.range (A := A.deeper _) hh _ 0 1 n).bound, ?_, ?_, ?_, ?_, (S.push.push).ns, ?_, ?_⟩
  · rw [sizeLine_eq]; omega
  · show IsRangeIter _ _ _ _ _
    have e1 : (0 : Int) + ((0 : Nat) : Int) * 1 = 0 := by simp
    have e2 : (n : Int) - ((0 : Nat) : Int) = n := by simp
    rw [e1, e2]
    exact Heap.get?_push_size _ rfl
  · intro b hb
    rw [List.mem_singleton.mp hb]
    exact Heap.lt_size (Heap.get?_push_size _ rfl)
  · intro hm
    have := List.mem_singleton.mp hm
    have e : s.heap.objs.size = (h₁.push (rgO 0 n 1 tk tn (tk + 1))).objs.size := this
    rw [size_push'] at e
    omega
  · refine ⟨fun C i v s₃ m₃ E' _ _ _ _ _ _ => wpAny_pure ⟨rfl, _, _, rfl, fun _ _ e => e⟩, fun C i v s₃ m₃ E' hC hv _ hns hm hk _ => ?_⟩
    obtain ⟨hi, t, rfl⟩ := hv
    have kk : ∀ b o, h₁.get? b = some o → s₃.heap.get? b = some o := fun b o e => hk b o (fun hm => hk2 b o e (by
      have := List.mem_singleton.mp hm
      rw [this]
      exact size_push' h₁ _)) (Heap.get?_push_of_some _ (Heap.get?_push_of_some _ e))
    obtain ⟨h3, g3, d3, t3, o3⟩ := s₃
    refine wpAny_BinOp (wpAny_BinOp ?_)
    refine nameC rfl rfl rfl (cN.2.keeps kk) rfl (wpAny_BinOp ?_)
    refine nameC rfl rfl rfl (cW.2.keeps kk) rfl ?_
    refine wpAny_Name (wpAny_loadName_local rfl rfl hns hm ?_) rfl
    have e0 : (0 : Int) + (i : Int) * 1 = ((i : Nat) : Int) := by simp
    rw [e0]
    have hp : 0 < W ^ i ∧ W ^ i ≤ 65536 := by
      refine ⟨Nat.pow_pos hW.1, ?_⟩
      rcases K with ⟨rfl, hK⟩ | ⟨rfl, rfl⟩
      · have : i = 0 ∨ i = 1 := by omega
        rcases this with rfl | rfl
        · rw [Nat.pow_zero]; omega
        · rw [Nat.pow_one]; omega
      · have : i = 0 ∨ i = 1 ∨ i = 2 := by omega
        rcases this with rfl | rfl | rfl <;> decide
    refine pow_int_small (by omega) (by omega) (by omega) ?_
    have e1 : (W : Int) ^ ((i : Nat) : Int).toNat = ((W ^ i : Nat) : Int) := by simp
    rw [e1]
    refine floordiv_int (by omega) ?_ (Or.inl (PyProof.noPylong_small (by omega)))
    refine nameC rfl rfl rfl (cW.2.keeps kk) rfl ?_
    refine mod_int' (by omega) ?_
    have e2 : ((N : Int).fdiv ((W ^ i : Nat) : Int)).fmod (W : Int) = fig W N i := by
      rw [Int.fdiv_eq_ediv_of_nonneg _ (by omega), Int.fmod_eq_emod_of_nonneg _ (by omega)]
      show _ = ((N / W ^ i % W : Nat) : Int)
      rw [Int.natCast_emod, Int.natCast_ediv]
    rw [e2]
    exact ⟨⟨i, t, _, hi, by rw [e0], rfl⟩, _, _, rfl, fun _ _ e => e⟩
  · intro D h' tk' ys vs hD hl hpl hlen hP hF hns hkeep
    have hD1 : h₁.get? D = none := by
      cases q : h₁.get? D with
      | none => rfl
      | some o => exact absurd ((Heap.get?_push_of_some _ (Heap.get?_push_of_some _ q)).symm.trans hD) (by simp)
    obtain ⟨nD, hpl⟩ := hpl
    have S5 := S.comp (ta.kp S.kp) hns (fun b o nb e => hkeep b o nb (fun hm => hk2 b o e (by
      have := List.mem_singleton.mp hm
      rw [this]
      exact size_push' h₁ _)) (Heap.get?_push_of_some _ (Heap.get?_push_of_some _ e))) hD1 hpl
    rw [List.filter_eq_self.mpr (fun _ _ => rfl)] at hF
    have hI := paired_ints 0 hF fun j v hv => by
      obtain ⟨_, t, e⟩ := hP j v hv
      exact ⟨t, by rw [e]; simp⟩
    rw [hlen] at hI
    have hlp : 0 < ((List.range' 0 n).map (fig W N)).length := by simp; omega
    have hL5 : h'.IsList D ys.toList.toArray := by rw [Array.toArray_toList]; exact hl
    refine wpAny_execs_cons (wpAny_Assign_Name (wpAny_BinOp (Call_ ?_)))
    refine nameB (s := sh s h' tk') (.builtin "max") S5.gd rfl rfl rfl rfl rfl (by kernel_rfl!) (by kernel_rfl!) ?_
    refine PyProof.Rows.callWith_builtin1 (spliced_more (nameL (s := sh s h' tk') S5 rfl rfl rfl rfl rfl (spliced_none ?_)))
    refine maxL S5 hh hL5 hI hlp fun h6 M t6 tk6 S6 M1 M2 => ?_
    refine Call_ ?_
    refine nameB (s := sh s h6 tk6) (.builtin "min") S6.gd rfl rfl rfl rfl rfl (by kernel_rfl!) (by kernel_rfl!) ?_
    refine PyProof.Rows.callWith_builtin1 (spliced_more (nameL (s := sh s h6 tk6) S6 rfl rfl rfl rfl rfl (spliced_none ?_)))
    have hL6 : h6.IsList D ys.toList.toArray := by
      have z := S6.nw _ (List.Mem.head _)
      rw [Array.toArray_toList]
      exact ⟨_, z.1, rfl, _, rfl⟩
    refine minL S6 hh hL6 hI hlp fun h7 m7 t7 tk7 S7 m1 m2 => subI ?_
    have S7 := S7.drop (N' := [(s.heap.objs.size + 1 + 1, oN), (s.heap.objs.size + 1, oW)]) fun _ hp => List.mem_cons_of_mem _ hp
    rw [gap_figs K M1 M2 m1 m2]
    refine storeL s S7 rfl rfl rfl fun h8 tk8 S8 => ?_
    have IN : ∀ {h m N'}, St w s.heap s.heap.objs.size m (N' ++ [(s.heap.objs.size + 1 + 1, oN), (s.heap.objs.size + 1, oW)]) h → h.IsCell (s.heap.objs.size + 1 + 1) (some (.int (N : Int) tN)) := fun S => ⟨oN, S.at (List.mem_append_right _ (List.Mem.head _)), dN⟩
    have IW : ∀ {h m N'}, St w s.heap s.heap.objs.size m (N' ++ [(s.heap.objs.size + 1 + 1, oN), (s.heap.objs.size + 1, oW)]) h → h.IsCell (s.heap.objs.size + 1) (some (.int (W : Int) tw)) := fun S => ⟨oW, S.at (List.mem_append_right _ (List.Mem.tail _ (List.Mem.head _))), dW⟩
    refine wpAny_execs_cons (wpAny_Assign_Name (List_ (spliced_more ?_)))
    refine nameC (s := sh s h8 tk8) rfl rfl rfl (IN (N' := []) S8) rfl (spliced_none (newL (by simp) ?_))
    have S9 := S8.push (o := { cls := .type "list", data := .seq ([Value.int (N : Int) tN] : List Value).toArray })
    have n9 : ∀ p ∈ [(s.heap.objs.size + 1 + 1, oN), (s.heap.objs.size + 1, oW)], p.1 ≠ h8.objs.size := fun p hp => Nat.ne_of_lt (Heap.lt_size (S8.nw p hp).1)
    refine storeL s S9 rfl rfl rfl fun h10 tk10 S10 => ?_
    refine wpAny_execs_cons (wpAny_For (Call_ ?_))
    refine nameB (s := sh s h10 tk10) (.type "range") S10.gd rfl rfl rfl rfl rfl (by kernel_rfl!) (by kernel_rfl!) ?_
    refine PySem.Pv.callWith_type1 (spliced_more (cI (spliced_none ?_)))
    refine rangeS s S10 fun r h11 tk11 t1 t2 t3 S11 _ => ?_
    refine iterR s S11 (List.Mem.head _) (by decide) fun it h12 S12 ne => ?_
    generalize h8.objs.size = R at S12 ne n9 ⊢
    have S13 := S12.drop (N' := (it, riO 0 (Builtin.Range.rangeSize 0 3 1) 1) :: (R, { cls := .type "list", data := .seq ([Value.int (N : Int) tN] : List Value).toArray }) :: [(s.heap.objs.size + 1 + 1, oN), (s.heap.objs.size + 1, oW)]) fun p hp => by
      rcases List.mem_cons.mp hp with rfl | hp
      · exact List.Mem.head _
      · exact List.Mem.tail _ (List.Mem.tail _ hp)
    have hRi : R ≠ it := ne (R, _) (List.Mem.tail _ (List.Mem.head _))
    have ne2 : ∀ oR : Obj, ∀ p ∈ (R, oR) :: [(s.heap.objs.size + 1 + 1, oN), (s.heap.objs.size + 1, oW)], p.1 ≠ it := fun oR p hp => by
      rcases List.mem_cons.mp hp with rfl | hp
      · exact hRi
      · exact ne p (List.Mem.tail _ (List.Mem.tail _ hp))
    have n10 : ∀ oI : Obj, ∀ p ∈ (it, oI) :: [(s.heap.objs.size + 1 + 1, oN), (s.heap.objs.size + 1, oW)], p.1 ≠ R := fun oI p hp => by
      rcases List.mem_cons.mp hp with rfl | hp
      · exact Ne.symm hRi
      · exact n9 p hp
    refine codeAny_forLoop (fun k s' => ∃ (i : Nat) (m : Str → Option Value) (h' : Heap) (tk : Nat) (oR : Obj) (vs : List Value) (tg : Tok), s' = sh s h' tk ∧ k + i = 3 ∧ St w s.heap s.heap.objs.size m ((it, riO i (3 - i) 1) :: (R, oR) :: [(s.heap.objs.size + 1 + 1, oN), (s.heap.objs.size + 1, oW)]) h' ∧ LaO oR vs.toArray ∧
      IntsAre vs (rowZ n W N (i + 1)) ∧ m sGap = some (.int ((gpn n W (itn n W N i) : Nat) : Int) tg) ∧ m sRow = some (.ref R) ∧ m sCount = some (.int (n : Int) tn)) ?_ 3 ?_
    · rintro k s' ⟨i, m, h', tk, oR, vs, tg, rfl, hi, S, hR, hI, e1, e2, e3⟩
      by_cases z : k = 0
      · refine endR s S (ne2 oR) hh (by omega) fun h'' S' => ?_
        refine wpAny_execs_nil ?_
        refine wpAny_execs_cons (wpAny_Return_some (nameL (s := sh s h'' _) S' rfl rfl rfl e2 rfl ?_))
        have : i = 3 := by omega
        subst this
        exact h h'' _ R vs S'.kp ⟨(S'.nw _ (List.Mem.head _)).2.2.1, hR.isL (S'.at (List.Mem.head _))⟩ hI
      · refine nextR s S (ne2 oR) (by clear hn hW; omega) fun h'' tk'' t'' S3 => ?_
        have q1 : (i : Int) + 1 = ((i + 1 : Nat) : Int) := by omega
        have q2 : (3 : Int) - (i : Int) - 1 = 3 - ((i + 1 : Nat) : Int) := by clear hn hW; omega
        rw [q1, q2] at S3
        refine wpAny_assign_Name (storeL s S3 rfl rfl rfl fun h4 tk4 S4 => ?_)
        exact dueTurn K hh S4.swap (n10 _) (List.Mem.tail _ (List.Mem.tail _ (List.Mem.head _))) dW hR hI (by clear hn hW; omega) e1 e2 e3 fun h' tk' m' o' vs' tg' S' hR' hI' f1 f2 f3 => ⟨k - 1, by clear hn hW; omega, i + 1, m', h', tk', o', vs', tg', rfl, by clear hn hW; omega, S'.swap, hR', hI', f1, f2, f3⟩
    · exact ⟨0, _, h12, _, _, _, _, rfl, rfl, S13, ⟨rfl, rfl, _, rfl⟩, .cons _ _ .nil, rfl, rfl, rfl⟩
end
end Mine
end
section
open PySem PySem.W PySem.W.X PyProof.Rows
set_option maxRecDepth 100000
set_option maxHeartbeats 1000000
namespace Mine
/-- the objects made by law so far -/
noncomputable def Xs (h : Heap) : List (Addr × Obj) := (List.range h.objs.size).filterMap fun a => if a ≤ 126 then none else (h.get? a).map fun o => (a, o)
theorem mem_xs {h : Heap} {a : Addr} {o : Obj} : (a, o) ∈ Xs h ↔ @LT.lt Nat _ 126 a ∧ h.get? a = some o := by
  unfold Xs
  rw [List.mem_filterMap]
  constructor
  · rintro ⟨b, _, e⟩
    by_cases z : b ≤ 126
    · rw [if_pos z] at e; cases e
    · rw [if_neg z] at e
      obtain ⟨o', q, r⟩ := Option.map_eq_some_iff.mp e
      cases r
      exact ⟨Nat.lt_of_not_le z, q⟩
  · rintro ⟨lt, e⟩
    exact ⟨a, List.mem_range.mpr (Heap.lt_size e), by rw [if_neg (Nat.not_le.mpr lt), e]; rfl⟩
section
variable {w : World} {h₀ hb h : Heap} {m mb : Str → Option Value} {N Nb : List (Addr × Obj)}
theorem St.base (S : St w h₀ 126 m N h) (h0 : h₀.objs.size = 126) : St w h₀ 126 m (Xs h) h :=
  ⟨S.ns, S.kp, S.g0, fun p hp => by
    obtain ⟨lt, e⟩ := mem_xs.mp (show (p.1, p.2) ∈ Xs h from hp)
    exact ⟨e, Nat.ne_of_gt lt, not_tab (Nat.le_trans (by decide) (Nat.le_of_lt lt)), Heap.get?_none_of_le (by rw [h0]; exact Nat.le_of_lt lt)⟩, S.hi⟩
/-- what law's prefix left, at the heap with law's frame hidden -/
structure Pf (w : World) (h₀ hb : Heap) : Prop where
  st : ∃ m N, St w h₀ 126 m N hb
  o125 : ∃ o, h₀.get? 125 = some o
  z : ∀ P ∈ tabs, h₀.get? P = some (tabObj #[])
  t97 : hb.get? 97 = some (tabObj #[])
  t109 : hb.get? 109 = some (tabObj #[])
theorem top_all (w : World) : (List.range 125).all (fun b => ((KF w).lookup b).isSome) = true := by kernel_rfl!
theorem St.kB (S : St w h₀ 126 m (N ++ Xs hb) h) (F : Pf w h₀ hb) : Kp (Hd hb) h := by
  obtain ⟨mb, Nb, Sb⟩ := F.st
  refine ⟨fun b o e n => ?_, fun P o e mm => ?_⟩
  · obtain ⟨ne, e⟩ := hd_of e
    rcases Nat.lt_or_gt_of_ne ne with lt | gt
    · by_cases q : b = 125
      · subst q
        obtain ⟨oS, eS⟩ := F.o125
        have := Sb.kp.at_ 125 _ eS n
        rw [e] at this
        cases this
        exact S.kp.at_ 125 _ eS n
      · have lt' : @LT.lt Nat _ b 125 := Nat.lt_of_le_of_ne (Nat.le_of_lt_succ lt) q
        have := List.all_eq_true.mp (top_all w) b (List.mem_range.mpr lt')
        obtain ⟨o', q'⟩ := Option.isSome_iff_exists.mp this
        have e1 := Sb.gd b o' q' n
        rw [e] at e1
        cases e1
        exact S.gd b o q' n
    · exact S.at (List.mem_append_right _ (mem_xs.mpr ⟨gt, e⟩))
  · obtain ⟨_, e⟩ := hd_of e
    obtain ⟨o', e', g⟩ := S.kp.tb P _ (F.z P mm) mm
    have mm' := mm
    unfold tabs at mm'
    simp only [List.mem_cons, List.not_mem_nil, or_false] at mm'
    have tri : (P = 53 ∨ P = 121) → Gw P o o' h := fun hP => by
      rcases g with rfl | ⟨_, c, rfl, _⟩ | z
      · exact .inr (.inr ⟨hP, _, rfl⟩)
      · exact .inr (.inr ⟨hP, _, rfl⟩)
      · exact .inr (.inr z)
    refine ⟨o', e', ?_⟩
    rcases mm' with rfl | rfl | rfl | rfl
    · exact tri (.inl rfl)
    · rw [F.t97] at e
      cases e
      exact g
    · rw [F.t109] at e
      cases e
      exact g
    · exact tri (.inr rfl)
end
/-- the inner loop's body -/
noncomputable def innerB (w : World) : List Stmt := forBo (stN 0 (forBo (stN 8 (lawBody w))))
noncomputable abbrev sBase' : Str := ⟨⟨[98, 97, 115, 101]⟩⟩
theorem nx_lt {n W N : Nat} (K : Kd n W) : nx n W N < 16777216 := by
  have hl := gpn_lt (N := N) K
  rw [nx_gpn K]
  rcases K with ⟨rfl, rfl | rfl⟩ | ⟨rfl, rfl⟩
  · show gpn 2 256 N * 255 < 16777216
    omega
  · show gpn 2 4096 N * 4095 < 16777216
    omega
  · show gpn 3 256 N * 65535 < 16777216
    omega
section
variable {w : World} {s : Shared} {h₀ hb h : Heap} {m : Str → Option Value} {N : List (Addr × Obj)} {tk : Nat} {P : Flow → Shared → Prop} {E : Value → Shared → Prop} {T : BT} {al : List UInt8} {sp : Addr} {b k sz n M : Nat} {tb ts tn tM : Tok}
theorem turn (F : Pf w h₀ hb) (W : Wd w T al 129 143 (Hd hb)) (Sp : Spell w s (Hd hb) al sp b k) (S : St w h₀ 126 m (N ++ Xs hb) h) (e1 : m sKy = some (.ref 215)) (e2 : m sSpell = some (.ref sp)) (e3 : m sBase' = some (.int b tb)) (e4 : m sSize = some (.int sz ts)) (e5 : m sCount = some (.int n tn)) (e6 : m sNumber = some (.int M tM))
    (hM : M < 16777216) (Sh : ∀ N, Shape al (dg b k N) sz n) (K : Kd n (b ^ sz)) (hb64 : b ≤ 64) (hb0 : 0 < b) (hbk : b ^ k = 16777216) (hsz : sz ≤ 6)
    (kk : ∀ h' tk', St w h₀ 126 m (N ++ Xs hb) h' → P .next (sh s h' tk')) : wpAny (MM w) (callerA.deeper (lawEnv w)) (execs (innerB w) (lawEnv w)) P E (sh s h tk) := by
  refine wpAny_execs_cons (wpAny_If (wpAny_isTrue_Compare1 (Call_ ?_)))
  refine nameG (s := sh s h tk) S.gd rfl rfl rfl rfl (v := .ref 114) (by kernel_rfl!) ?_
  refine callWith_def (o := mk.zo_115 w.params) rfl (spliced_more ?_)
  have W1 := W.kp (S.kB F)
  refine nameC (c := 129) (s := sh s h tk) rfl rfl rfl W1.cl.2 rfl (spliced_more ?_)
  refine nameL (s := sh s h tk) S rfl rfl rfl e1 rfl (spliced_more (nameL (s := sh s h tk) S rfl rfl rfl e2 rfl (spliced_more (nameL (s := sh s h tk) S rfl rfl rfl e3 rfl (spliced_more ?_)))))
  refine nameL (s := sh s h tk) S rfl rfl rfl e4 rfl (spliced_more (nameL (s := sh s h tk) S rfl rfl rfl e6 rfl (spliced_none ⟨S.gd 114 _ rfl (by decide), ?_⟩)))
  refine lawWalk (s := sh s h tk) (A := callerA.deeper (lawEnv w)) W1 (Sp.at _ tk) (S.kB F) hM Sh (fun N _ => nx_lt K) hb64 hb0 hbk (by show callerA.depth + 1 + 9 < recursionLimit; decide) (by show callerA.units + 3 + 20 < cLine; decide) rfl fun h₁ tk₁ r1 us k1 l1 i1 => ?_
  have S1 := S.keep k1
  refine Call_ ?_
  refine nameG (s := sh s h₁ tk₁) S1.gd rfl rfl rfl rfl (v := .ref 119) (by kernel_rfl!) ?_
  refine callWith_def (o := mk.zo_120 w.params) rfl (spliced_more (wpAny_BinOp ?_))
  refine nameL (s := sh s h₁ tk₁) S1 rfl rfl rfl e3 rfl (nameL (s := sh s h₁ tk₁) S1 rfl rfl rfl e4 rfl (powI (by omega) (by omega) (spliced_more ?_)))
  refine nameL (s := sh s h₁ _) S1 rfl rfl rfl e5 rfl (spliced_more (nameL (s := sh s h₁ _) S1 rfl rfl rfl e6 rfl (spliced_none ⟨S1.gd 119 _ rfl (by decide), ?_⟩)))
  have ep : (b : Int) ^ sz = ((b ^ sz : Nat) : Int) := by simp
  rw [ep]
  refine lawDue (s := sh s h₁ _) S1.gd (W1.ta.kp k1) K hM (by show callerA.depth + 1 + 1 < recursionLimit; decide) rfl fun h₂ tk₂ r2 us2 k2 l2 i2 => ?_
  refine ke_ne_ints (s := sh s h₂ tk₂) (l1.kp k2).2 l2.2 i1 i2 (by show callerA.units + 3 + 64 < cLine; decide) (wpAny_truthy_bool ?_)
  rw [decide_eq_true rfl]
  rw [if_neg (by decide)]
  exact wpAny_execs_nil (wpAny_execs_nil (kk h₂ tk₂ (S1.keep k2)))
end
end Mine
end
section
open PySem PySem.W PySem.W.X PyProof.Rows
set_option maxRecDepth 100000
set_option maxHeartbeats 1000000
namespace Mine
noncomputable def outerB (w : World) : List Stmt := forBo (stN 8 (lawBody w))
noncomputable def innerT (w : World) : Expr := forTg (stN 0 (forBo (stN 8 (lawBody w))))
noncomputable abbrev tupO (q : Addr) (b sz n : Nat) (t1 t2 t3 : Tok) : Obj := { cls := .type "tuple", data := .seq ([Value.ref q, Value.int b t1, Value.int sz t2, Value.int n t3] : List Value).toArray }
theorem goL {M : Model} {A : Around} {E : Value → Shared → Prop} {s : Shared} {elts : List Expr} {k : Nat} {pos : Pos} {it a l : Addr} {i : Nat} {o : Obj} {Q : Unit → Shared → Prop} (e : s.heap.get? it = some o) (ho : LiO o l i) (h : Q () s) : wpAny M A (letOwnedTupleGo (.Tuple elts k pos) (.ref it) (.ref a)) Q E s := by
  show wpAny M A (load it >>= _) Q E s
  refine wpAny_bind (wpAny_load e ?_)
  rw [ho.1, ho.2]
  dsimp only
  rw [if_neg (by rw [Bool.and_eq_true]; rintro ⟨x, _⟩; exact absurd x (by decide))]
  exact wpAny_pure h
theorem newT {w : World} {A : Around} {E : Value → Shared → Prop} {Q : Value → Shared → Prop} {s : Shared} {h : Heap} {tk : Nat} {vs : List Value} (hz : vs.length ≤ 1000) (k : Q (.ref h.objs.size) (sh s (h.push { cls := .type "tuple", data := .seq vs.toArray }) tk)) : wpAny (MM w) A (newTuple vs) Q E (sh s h tk) :=
  wpAny_newTuple k (by rw [sizeLine_eq]; omega)
section
variable {w : World} {s : Shared} {h₀ hb h : Heap} {m : Str → Option Value} {N : List (Addr × Obj)} {tk : Nat} {P : Flow → Shared → Prop} {E : Value → Shared → Prop} {T : BT} {al : List UInt8} {q1 q2 : Addr} {M : Nat} {tM : Tok}
theorem oneT {m : Str → Option Value} {q a : Addr} {b sz n k : Nat} {u1 u2 u3 : Tok} (F : Pf w h₀ hb) (W : Wd w T al 129 143 (Hd hb)) (Sp : Spell w s (Hd hb) al q b k) (S : St w h₀ 126 m (N ++ Xs hb) h) (ha : (a, tupO q b sz n u1 u2 u3) ∈ N ++ Xs hb) (e1 : m sKy = some (.ref 215)) (e2 : m sWords = some (.ref q1)) (e3 : m sSigns = some (.ref q2)) (e6 : m sNumber = some (.int M tM)) (hM : M < 16777216)
    (Sh : ∀ N, Shape al (dg b k N) sz n) (K : Kd n (b ^ sz)) (hb64 : b ≤ 64) (hb0 : 0 < b) (hbk : b ^ k = 16777216) (hsz : sz ≤ 6)
    (kk : ∀ h' tk' m', St w h₀ 126 m' (N ++ Xs hb) h' → m' sKy = some (.ref 215) → m' sWords = some (.ref q1) → m' sSigns = some (.ref q2) → m' sNumber = some (.int M tM) → P .next (sh s h' tk')) :
    wpAny (MM w) (callerA.deeper (lawEnv w)) (assign (innerT w) (lawEnv w) (.ref a)) (fun _ s₂ => wpAny (MM w) (callerA.deeper (lawEnv w)) (execs (innerB w) (lawEnv w)) P E s₂) E (sh s h tk) := by
  refine assign_Tuple_tuple (items := ([Value.ref q, Value.int b u1, Value.int sz u2, Value.int n u3] : List Value).toArray) rfl ⟨_, S.at ha, rfl, _, rfl⟩ rfl rfl fun h₁ he => ?_
  have S1 := S.keep (Kp.ext he)
  refine assignInOrder_cons (assign_Name (storeL s S1 rfl rfl rfl fun h₂ tk₂ S2 => ?_))
  refine assignInOrder_cons (assign_Name (storeL s S2 rfl rfl rfl fun h₃ tk₃ S3 => ?_))
  refine assignInOrder_cons (assign_Name (storeL s S3 rfl rfl rfl fun h₄ tk₄ S4 => ?_))
  refine assignInOrder_cons (assign_Name (storeL s S4 rfl rfl rfl fun h₅ tk₅ S5 => assignInOrder_nil ?_))
  exact turn F W Sp S5 e1 rfl rfl rfl rfl e6 hM Sh K hb64 hb0 hbk hsz fun h' tk' S' => kk h' tk' _ S' e1 e2 e3 e6
theorem innerL (F : Pf w h₀ hb) (W : Wd w T al 129 143 (Hd hb)) (SpW : Spell w s (Hd hb) al q1 16 6) (SpS : Spell w s (Hd hb) al q2 64 4) (S : St w h₀ 126 m (N ++ Xs hb) h) (e1 : m sKy = some (.ref 215)) (e2 : m sWords = some (.ref q1)) (e3 : m sSigns = some (.ref q2)) (e6 : m sNumber = some (.int M tM)) (hM : M < 16777216)
    (kk : ∀ h' tk' m', St w h₀ 126 m' (N ++ Xs hb) h' → m' sKy = some (.ref 215) → m' sWords = some (.ref q1) → m' sSigns = some (.ref q2) → P .next (sh s h' tk')) : wpAny (MM w) (callerA.deeper (lawEnv w)) (execs (outerB w) (lawEnv w)) P E (sh s h tk) := by
  refine wpAny_execs_cons (wpAny_For (List_ (spliced_more (Tuple_ ?_))))
  refine spliced_more (nameL (s := sh s h tk) S rfl rfl rfl e2 rfl (spliced_more (cI (spliced_more (cI (spliced_more (cI (spliced_none (newT (by simp) ?_)))))))))
  have S1 := S.push (o := tupO q1 16 2 3 tk (tk + 1) (tk + 1 + 1))
  refine spliced_more (Tuple_ ?_)
  refine spliced_more (nameL (s := sh s _ _) S1 rfl rfl rfl e2 rfl (spliced_more (cI (spliced_more (cI (spliced_more (cI (spliced_none (newT (by simp) ?_)))))))))
  have S2 := S1.push (o := tupO q1 16 3 2 (tk + 1 + 1 + 1) (tk + 1 + 1 + 1 + 1) (tk + 1 + 1 + 1 + 1 + 1))
  refine spliced_more (Tuple_ ?_)
  refine spliced_more (nameL (s := sh s _ _) S2 rfl rfl rfl e3 rfl (spliced_more (cI (spliced_more (cI (spliced_more (cI (spliced_none (newT (by simp) ?_)))))))))
  have S3 := S2.push (o := tupO q2 64 2 2 (tk + 1 + 1 + 1 + 1 + 1 + 1) (tk + 1 + 1 + 1 + 1 + 1 + 1 + 1) (tk + 1 + 1 + 1 + 1 + 1 + 1 + 1 + 1))
  refine spliced_none (newL (by simp) ?_)
  have S4 := S3.push (o := { cls := .type "list", data := .seq ([Value.ref h.objs.size, Value.ref (h.push (tupO q1 16 2 3 tk (tk + 1) (tk + 1 + 1))).objs.size, Value.ref ((h.push (tupO q1 16 2 3 tk (tk + 1) (tk + 1 + 1))).push (tupO q1 16 3 2 (tk + 1 + 1 + 1) (tk + 1 + 1 + 1 + 1) (tk + 1 + 1 + 1 + 1 + 1))).objs.size] : List Value).toArray })
  have hl4 := S4.at (List.Mem.head _)
  refine iterL (items := ([Value.ref h.objs.size, Value.ref (h.push (tupO q1 16 2 3 tk (tk + 1) (tk + 1 + 1))).objs.size, Value.ref ((h.push (tupO q1 16 2 3 tk (tk + 1) (tk + 1 + 1))).push (tupO q1 16 3 2 (tk + 1 + 1 + 1) (tk + 1 + 1 + 1 + 1) (tk + 1 + 1 + 1 + 1 + 1))).objs.size] : List Value).toArray) s S4 ⟨_, hl4, rfl, _, rfl⟩ fun it h₅ S5 hne => ?_
  clear hl4 S1 S2 S3 S4
  generalize (((h.push (tupO q1 16 2 3 tk (tk + 1) (tk + 1 + 1))).push (tupO q1 16 3 2 (tk + 1 + 1 + 1) (tk + 1 + 1 + 1 + 1) (tk + 1 + 1 + 1 + 1 + 1))).push (tupO q2 64 2 2 (tk + 1 + 1 + 1 + 1 + 1 + 1) (tk + 1 + 1 + 1 + 1 + 1 + 1 + 1) (tk + 1 + 1 + 1 + 1 + 1 + 1 + 1 + 1))).objs.size = L at S5 hne ⊢
  generalize ((h.push (tupO q1 16 2 3 tk (tk + 1) (tk + 1 + 1))).push (tupO q1 16 3 2 (tk + 1 + 1 + 1) (tk + 1 + 1 + 1 + 1) (tk + 1 + 1 + 1 + 1 + 1))).objs.size = a3 at S5 hne ⊢
  generalize (h.push (tupO q1 16 2 3 tk (tk + 1) (tk + 1 + 1))).objs.size = a2 at S5 hne ⊢
  generalize h.objs.size = a1 at S5 hne ⊢
  generalize tk = y1 at S5 hne
  generalize hX : ((L, { cls := .type "list", data := .seq ([Value.ref a1, Value.ref a2, Value.ref a3] : List Value).toArray }) :: (a3, tupO q2 64 2 2 (y1 + 1 + 1 + 1 + 1 + 1 + 1) (y1 + 1 + 1 + 1 + 1 + 1 + 1 + 1) (y1 + 1 + 1 + 1 + 1 + 1 + 1 + 1 + 1)) :: (a2, tupO q1 16 3 2 (y1 + 1 + 1 + 1) (y1 + 1 + 1 + 1 + 1) (y1 + 1 + 1 + 1 + 1 + 1)) :: (a1, tupO q1 16 2 3 y1 (y1 + 1) (y1 + 1 + 1)) :: N : List (Addr × Obj)) = N5
  have S5' : St w h₀ 126 m ((it, { cls := .type "list_iterator", data := .fields #[.ref L, .int 0 0] }) :: (N5 ++ Xs hb)) h₅ := by rw [← hX]; exact S5
  have hne' : ∀ p ∈ N5 ++ Xs hb, p.1 ≠ it := by rw [← hX]; exact hne
  have mL : (L, ({ cls := .type "list", data := .seq ([Value.ref a1, Value.ref a2, Value.ref a3] : List Value).toArray } : Obj)) ∈ N5 ++ Xs hb := List.mem_append_left _ (by rw [← hX]; simp)
  have m1 : (a1, tupO q1 16 2 3 y1 (y1 + 1) (y1 + 1 + 1)) ∈ N5 := by rw [← hX]; simp
  have m2 : (a2, tupO q1 16 3 2 (y1 + 1 + 1 + 1) (y1 + 1 + 1 + 1 + 1) (y1 + 1 + 1 + 1 + 1 + 1)) ∈ N5 := by rw [← hX]; simp
  have m3 : (a3, tupO q2 64 2 2 (y1 + 1 + 1 + 1 + 1 + 1 + 1) (y1 + 1 + 1 + 1 + 1 + 1 + 1 + 1) (y1 + 1 + 1 + 1 + 1 + 1 + 1 + 1 + 1)) ∈ N5 := by rw [← hX]; simp
  have sub : ∀ p ∈ N ++ Xs hb, p ∈ N5 ++ Xs hb := fun p hp => by
    rcases List.mem_append.mp hp with hp | hp
    · exact List.mem_append_left _ (by rw [← hX]; simp [hp])
    · exact List.mem_append_right _ hp
  clear S5 hne hX
  refine codeAny_forLoop_any (fun n s' => ∃ (i : Nat) (m' : Str → Option Value) (h' : Heap) (tk : Nat) (oI : Obj), s' = sh s h' tk ∧ n + i = 3 ∧ St w h₀ 126 m' ((it, oI) :: (N5 ++ Xs hb)) h' ∧ LiO oI L i ∧ m' sKy = some (.ref 215) ∧ m' sWords = some (.ref q1) ∧ m' sSigns = some (.ref q2) ∧ m' sNumber = some (.int M tM)) ?_ 3 ⟨0, m, h₅, _, _, rfl, rfl, S5', ⟨rfl, rfl⟩, e1, e2, e3, e6⟩
  rintro n s' ⟨i, m', h', tk', oI, rfl, hi, S, hI, f1, f2, f3, f6⟩
  have hlist : h'.IsList L ([Value.ref a1, Value.ref a2, Value.ref a3] : List Value).toArray := ⟨_, S.at (List.mem_cons_of_mem _ mL), rfl, _, rfl⟩
  by_cases z : n = 0
  · refine endL s S hne' hI hlist (by have : i = 3 := by omega
                                      subst this; rfl) rfl fun h'' S' => ?_
    exact wpAny_execs_nil (wpAny_execs_nil (kk h'' _ m' (S'.drop sub) f1 f2 f3))
  · have hc : i = 0 ∨ i = 1 ∨ i = 2 := by omega
    rcases hc with rfl | rfl | rfl
    · refine nextL s S hne' hI hlist (x := .ref a1) rfl fun h₁ o' S1 hI1 => ?_
      refine goL (S1.at (List.Mem.head _)) hI1 ?_
      exact oneT (N := (it, o') :: N5) (b := 16) (sz := 2) (n := 3) (k := 6) F W SpW S1 (List.mem_append_left _ (List.Mem.tail _ m1)) f1 f2 f3 f6 hM (fun N => shape62 (dg_len 16 6 N)) (.inr ⟨rfl, rfl⟩) (by decide) (by decide) (by decide) (by decide) fun h₂ tk₂ m₂ S2 g1 g2 g3 g6 => ⟨n - 1, by omega, 0 + 1, m₂, h₂, tk₂, o', rfl, by omega, S2, hI1, g1, g2, g3, g6⟩
    · refine nextL s S hne' hI hlist (x := .ref a2) rfl fun h₁ o' S1 hI1 => ?_
      refine goL (S1.at (List.Mem.head _)) hI1 ?_
      exact oneT (N := (it, o') :: N5) (b := 16) (sz := 3) (n := 2) (k := 6) F W SpW S1 (List.mem_append_left _ (List.Mem.tail _ m2)) f1 f2 f3 f6 hM (fun N => shape63 (dg_len 16 6 N)) (.inl ⟨rfl, .inr rfl⟩) (by decide) (by decide) (by decide) (by decide) fun h₂ tk₂ m₂ S2 g1 g2 g3 g6 => ⟨n - 1, by omega, 1 + 1, m₂, h₂, tk₂, o', rfl, by omega, S2, hI1, g1, g2, g3, g6⟩
    · refine nextL s S hne' hI hlist (x := .ref a3) rfl fun h₁ o' S1 hI1 => ?_
      refine goL (S1.at (List.Mem.head _)) hI1 ?_
      exact oneT (N := (it, o') :: N5) (b := 64) (sz := 2) (n := 2) (k := 4) F W SpS S1 (List.mem_append_left _ (List.Mem.tail _ m3)) f1 f2 f3 f6 hM (fun N => shape42 (dg_len 64 4 N)) (.inl ⟨rfl, .inr rfl⟩) (by decide) (by decide) (by decide) (by decide) fun h₂ tk₂ m₂ S2 g1 g2 g3 g6 => ⟨n - 1, by omega, 2 + 1, m₂, h₂, tk₂, o', rfl, by omega, S2, hI1, g1, g2, g3, g6⟩
end
end Mine
end
section
open PySem PySem.W PySem.W.X PyProof.Rows
set_option maxRecDepth 100000
set_option maxHeartbeats 1000000
namespace Mine
/-- numbers that law walks from -/
noncomputable def Nat24 (v : Value) : Prop := ∃ (M : Nat) (t : Tok), v = .int M t ∧ M < 16777216
theorem paired_nat {F : Value → Value → Prop} (hF : ∀ v y, F v y → Nat24 y) {vs ys : List Value} (hp : Paired F vs ys) : ∀ y ∈ ys, Nat24 y := by
  induction hp with
  | nil => exact fun y hy => by cases hy
  | cons h _ ih =>
    intro y hy
    rcases List.mem_cons.mp hy with rfl | hy
    · exact hF _ _ h
    · exact ih y hy
theorem paired_len {F : Value → Value → Prop} {vs ys : List Value} (hp : Paired F vs ys) : ys.length = vs.length := by
  induction hp with
  | nil => rfl
  | cons _ _ ih => simp [ih]
theorem ints_mem {vs : List Value} {ns : List Int} (h : IntsAre vs ns) {v : Value} (hv : v ∈ vs) : ∃ k t, v = .int k t := by
  induction h with
  | nil => cases hv
  | cons n t _ ih =>
    rcases List.mem_cons.mp hv with rfl | hv
    · exact ⟨_, _, rfl⟩
    · exact ih hv
section
variable {w : World} {s : Shared} {h₀ hb : Heap} {m : Str → Option Value} {tk : Nat} {Q : Flow → Shared → Prop} {T : BT} {al : List UInt8} {q1 q2 : Addr} {vs : List Value} {ns : List Int}
theorem outerL (F : Pf w h₀ hb) (W : Wd w T al 129 143 (Hd hb)) (SpW : Spell w s (Hd hb) al q1 16 6) (SpS : Spell w s (Hd hb) al q2 64 4) (S : St w h₀ 126 m ([] ++ Xs hb) hb) (e0 : m sScript = some (.ref 125)) (e1 : m sKy = some (.ref 215)) (e2 : m sWords = some (.ref q1)) (e3 : m sSigns = some (.ref q2))
    (hl : h₀.IsList 125 vs.toArray) (hi : IntsAre vs ns) (hvs : vs.length ≤ 2 ^ 20) (kk : ∀ h' tk', Kp h₀ h' → Q (.ret (.bool true)) (sh s h' tk')) :
    wpAny (MM w) (callerA.deeper (lawEnv w)) (execs ((lawBody w).drop 8) (lawEnv w)) Q (fun _ _ => False) (sh s hb tk) := by
  have hl1 : hb.IsList 125 vs.toArray := let ⟨o, e, r⟩ := hl; ⟨o, S.old e (by decide), r⟩
  refine wpAny_execs_cons (wpAny_For (wpAny_BinOp ?_))
  refine wpAny_ListComp_free (fun _ => true) (fun _ y => Nat24 y) rfl (noCells (by kernel_rfl!)) rfl (by decide) rfl ?_
  refine wpAny_Subscript_list_slice ?_
  refine nameL (s := sh s hb tk) S rfl rfl rfl e0 rfl ?_
  refine evalPart_none_step (evalPart_some_step (cI ?_))
  refine ⟨125, vs.toArray, none, some 2, rfl, hl1, by rw [sizeLine_eq]; simp; omega, .none, IsPart.int _ _, ?_⟩
  rw [take2]
  have hz1 : (hb.push { cls := .type "slice", data := .fields #[.none, .int 2 tk, .none] }).objs.size = hb.objs.size + 1 := size_push' _ _
  have gl : ((hb.push { cls := .type "slice", data := .fields #[.none, .int 2 tk, .none] }).push { cls := .type "list", data := .seq (vs.take 2).toArray }).IsList (hb.objs.size + 1) (vs.take 2).toArray :=
    ⟨_, hz1 ▸ Heap.get?_push_size _ rfl, rfl, _, rfl⟩
  refine wpAny_pyIter_list gl ?_
  have hz2 : ((hb.push { cls := .type "slice", data := .fields #[.none, .int 2 tk, .none] }).push { cls := .type "list", data := .seq (vs.take 2).toArray }).objs.size = hb.objs.size + 2 := by rw [size_push', hz1]
  have keep2 : ∀ b o, hb.get? b = some o → ((hb.push { cls := .type "slice", data := .fields #[.none, .int 2 tk, .none] }).push { cls := .type "list", data := .seq (vs.take 2).toArray }).get? b = some o := fun b o e => Heap.get?_push_of_some _ (Heap.get?_push_of_some _ e)
  show ∃ I fp wr n P St, _
  generalize hH : (hb.push { cls := .type "slice", data := .fields #[.none, .int 2 tk, .none] }).push { cls := .type "list", data := .seq (vs.take 2).toArray } = H at gl hz2 keep2 ⊢
  have hne : hb.objs.size + 1 ≠ H.objs.size := by rw [hz2]; exact Nat.ne_of_lt (Nat.lt_succ_self _)
  refine ⟨H.objs.size, _, _, _, _, _, rfl, Walks.list (A := callerA.deeper (lawEnv w)) rfl H.objs.size (hb.objs.size + 1) hne (vs.take 2).toArray, ?_, ⟨⟨_, Heap.get?_push_size _ rfl, rfl, rfl⟩, gl.push _⟩, ?_, ?_, ?_⟩
  · rw [sizeLine_eq]; simp; omega
  · intro b hb'
    have : (H.push { cls := .type "list_iterator", data := .fields #[.ref (hb.objs.size + 1), .int 0 0] }).objs.size = hb.objs.size + 3 := by rw [size_push', hz2]
    show b < (H.push { cls := .type "list_iterator", data := .fields #[.ref (hb.objs.size + 1), .int 0 0] }).objs.size
    rw [this]
    rcases List.mem_cons.mp hb' with rfl | hb'
    · rw [hz2]; exact Nat.lt_succ_self _
    · rw [List.mem_singleton.mp hb']; exact Nat.lt_succ_of_lt (Nat.lt_succ_self _)
  · refine ⟨fun C i v s₃ m₃ E' _ _ _ _ _ _ => wpAny_pure ⟨rfl, _, _, rfl, fun _ _ e => e⟩, fun C i v s₃ m₃ E' hC hv _ hns hm hk _ => ?_⟩
    have hmem : v ∈ vs := List.mem_of_mem_take (Array.mem_toList_iff.mpr (Array.mem_of_getElem? hv))
    obtain ⟨k, t, rfl⟩ := ints_mem hi hmem
    obtain ⟨h3, g3, d3, t3, o3⟩ := s₃
    refine wpAny_BinOp (wpAny_Name (wpAny_loadName_local rfl rfl hns hm ?_) rfl)
    refine cI (s := ⟨h3, g3, d3, t3, o3⟩) (fmI (by decide) ?_)
    have e : k.fmod 16777216 = (((k % 16777216).toNat : Nat) : Int) := by rw [Int.fmod_eq_emod_of_nonneg _ (by decide)]; omega
    rw [e]
    exact ⟨⟨_, _, rfl, by omega⟩, _, _, rfl, fun _ _ e => e⟩
  · intro D h' tk' ys vs' hD hlD hpl hlen hP hF hkeep
    have hk' : ∀ b o, hb.get? b = some o → h'.get? b = some o := fun b o e => hkeep b o (fun hm => by
      have lt := Heap.lt_size e
      rw [List.mem_singleton.mp hm, hz2] at lt
      exact absurd lt (Nat.not_lt.mpr (Nat.le_add_right ..))) (Heap.get?_push_of_some _ (keep2 b o e))
    have S2 := S.keep (Kp.of hk')
    have hy : ∀ y ∈ ys.toList, Nat24 y := paired_nat (fun _ _ q => q) hF
    have hylen : ys.toList.length ≤ 2 := by
      rw [paired_len hF]
      refine Nat.le_trans (List.length_filter_le _ _) ?_
      rw [hlen]
      simp
      omega
    refine List_ (spliced_more (cI (spliced_none (newL (by simp) ?_))))
    have S3 := S2.push (o := { cls := .type "list", data := .seq ([Value.int 1 tk'] : List Value).toArray })
    have hlD' : h'.IsList D ys.toList.toArray := by rw [Array.toArray_toList]; exact hlD
    refine addL (vs := ys.toList) (ws := [Value.int 1 tk']) S3 (hlD'.push _) ⟨_, S3.at (List.Mem.head _), rfl, _, rfl⟩ (by simp; simp at hylen; omega) fun h4 S4 => ?_
    have hx24 : ∀ y ∈ ys.toList ++ [Value.int 1 tk'], Nat24 y := fun y q => by
      rcases List.mem_append.mp q with q | q
      · exact hy y q
      · rw [List.mem_singleton.mp q]; exact ⟨1, tk', rfl, by decide⟩
    have hl4 := S4.at (List.Mem.head _)
    generalize ys.toList ++ [Value.int 1 tk'] = xs at S4 hx24 hl4 ⊢
    refine iterL (items := xs.toArray) s S4 ⟨_, hl4, rfl, _, rfl⟩ fun it h₅ S5 hne' => ?_
    clear hl4 S4 S3 S2
    generalize (h'.push { cls := .type "list", data := .seq ([Value.int 1 tk'] : List Value).toArray }).objs.size = L at S5 hne' ⊢
    have S6 := S5.drop (N' := (it, { cls := .type "list_iterator", data := .fields #[.ref L, .int 0 0] }) :: (L, { cls := .type "list", data := .seq xs.toArray }) :: Xs hb) (by intro p hp; simp only [List.mem_cons, List.nil_append] at hp ⊢; rcases hp with rfl | rfl | hp <;> simp_all)
    have hne2 : ∀ p ∈ (L, ({ cls := .type "list", data := .seq xs.toArray } : Obj)) :: Xs hb, p.1 ≠ it := fun p hp => hne' p (by
      rcases List.mem_cons.mp hp with rfl | hp
      · exact List.Mem.head _
      · exact List.Mem.tail _ (List.Mem.tail _ hp))
    clear S5 hne'
    refine codeAny_forLoop (fun n s' => ∃ (i : Nat) (m' : Str → Option Value) (h' : Heap) (tk : Nat) (oI : Obj), s' = sh s h' tk ∧ n + i = xs.length ∧ St w h₀ 126 m' ((it, oI) :: (L, { cls := .type "list", data := .seq xs.toArray }) :: Xs hb) h' ∧ LiO oI L i ∧ m' sKy = some (.ref 215) ∧ m' sWords = some (.ref q1) ∧ m' sSigns = some (.ref q2)) ?_ xs.length ⟨0, m, h₅, _, _, rfl, rfl, S6, ⟨rfl, rfl⟩, e1, e2, e3⟩
    rintro n s' ⟨i, m', h'', tk'', oI, rfl, hin, S, hI, f1, f2, f3⟩
    have hlist : h''.IsList L xs.toArray := ⟨_, S.at (List.Mem.tail _ (List.Mem.head _)), rfl, _, rfl⟩
    by_cases z : n = 0
    · refine endL s S hne2 hI hlist (by simp; omega) rfl fun h3 S' => ?_
      exact wpAny_execs_nil (wpAny_execs_cons (wpAny_Return_some (wpAny_Constant_bool (kk h3 _ S'.kp))))
    · have lt : i < xs.length := by omega
      obtain ⟨M, t, hx, hM⟩ := hx24 xs[i] (List.getElem_mem lt)
      refine nextL s S hne2 hI hlist (x := .int M t) (by rw [← hx]; simp) fun h₁ o' S1 hI1 => ?_
      refine wpAny_assign_Name (storeL s S1 rfl rfl rfl fun h₂ tk₂ S2 => ?_)
      exact innerL (N := [(it, o'), (L, { cls := .type "list", data := .seq xs.toArray })]) F W SpW SpS S2 f1 f2 f3 rfl hM fun h₃ tk₃ m₃ S3 g1 g2 g3 => ⟨n - 1, by omega, i + 1, m₃, h₃, tk₃, o', rfl, by omega, S3, hI1, g1, g2, g3⟩
end
end Mine
end
section
open PySem PySem.W PySem.W.X PyProof.Rows
set_option maxRecDepth 100000
set_option maxHeartbeats 1000000
namespace Mine
theorem codeTab {w : World} {h : Heap} (G : Gd w h) {P : Addr} (hP : P ∈ tabs) (e : h.get? P = some (tabObj #[])) : isCodeTable h P := by
  unfold tabs at hP
  simp only [List.mem_cons, List.not_mem_nil, or_false] at hP
  rcases hP with rfl | rfl | rfl | rfl
  · exact Heap.TableAt.isCodeTable (c := 57) (ps := #[]) ⟨⟨_, _, G 57 _ rfl (by decide), rfl, rfl, rfl⟩, e⟩
  · exact Heap.TableAt.isCodeTable (c := 101) (ps := #[]) ⟨⟨_, _, G 101 _ rfl (by decide), rfl, rfl, rfl⟩, e⟩
  · exact Heap.TableAt.isCodeTable (c := 113) (ps := #[]) ⟨⟨_, _, G 113 _ rfl (by decide), rfl, rfl, rfl⟩, e⟩
  · exact Heap.TableAt.isCodeTable (c := 123) (ps := #[]) ⟨⟨_, _, G 123 _ rfl (by decide), rfl, rfl, rfl⟩, e⟩
theorem old_kp {w : World} {h h' : Heap} (G : Gd w h) (z : ∀ P ∈ tabs, h.get? P = some (tabObj #[])) (k : Kp h h') : OldK h h' := by
  refine ⟨fun b o e => ?_, fun b o e => ?_⟩
  · by_cases m : b ∈ tabs
    · have zb := z b m
      obtain ⟨o', e', g⟩ := k.tb b o e m
      rw [zb] at e
      cases e
      refine .inr (.inl ⟨codeTab G m zb, rfl, #[], ?_⟩)
      rcases g with rfl | ⟨_, c, rfl, _⟩ | ⟨_, vs, rfl⟩
      · exact ⟨#[], rfl, e'⟩
      · exact ⟨#[.int (lnOf b) 0, .int 18 0, .ref c], rfl, by rw [e']; simp⟩
      · exact ⟨vs, rfl, by rw [e']; simp⟩
    · exact .inl (k.at_ b o e m)
  · by_cases m : b ∈ tabs
    · obtain ⟨o', e', _⟩ := k.tb b o e m
      exact ⟨o', e'⟩
    · exact ⟨o, k.at_ b o e m⟩
theorem lawRun {w : World} {s : Shared} {vs : List Value} {ns : List Int} {Q E : Value → Shared → Prop} (hs : s.heap.objs.size = 126) (hg : s.gens = #[]) (KX : (KF w).In s.heap) (ZH : KT.Holds s.heap 1 0 (mk.ktop_249 w.params)) (hl : s.heap.IsList 125 vs.toArray) (hi : IntsAre vs ns) (hvs : vs.length ≤ 2 ^ 20)
    (kk : ∀ h' tk, OldK s.heap h' → Q (.bool true) (sh s h' tk)) : wpAny (MM w) callerA (call (.ref 124) [.ref 125]) Q E s := by
  have G : Gd w s.heap := fun a o e _ => KX a o e
  have z : ∀ P ∈ tabs, s.heap.get? P = some (tabObj #[]) := fun P hP => by
    unfold tabs at hP
    simp only [List.mem_cons, List.not_mem_nil, or_false] at hP
    rcases hP with rfl | rfl | rfl | rfl <;> exact KX _ _ rfl
  refine lawP1 G hs hg ZH (z 53 (by decide)) (z 121 (by decide)) (z 97 (by decide)) (z 109 (by decide)) hl hi hvs fun h₁ tk₁ a b ta tb m₁ oa om op S1 hoa hom hop Z1 em1 alN => ?_
  refine lawP2 S1 hoa hop Z1 alN fun h₂ tk₂ op' S2 hop' Z2 P2 => ?_
  refine lawP3 hg ZH (z 53 (by decide)) S2 hop' Z2 P2 em1 fun h₃ tk₃ T m₃ c' S3 em3 ek3 W3 t121 t97 t109 => ?_
  refine lawP4 S3 hom em3 ek3 W3 t121 t97 t109 fun h₄ tk₄ m₄ q1 q2 S4 em4 ek4 ew4 es4 W4 L1 L2 C4 t97' t109' => ?_
  obtain ⟨oS, eS, _⟩ := id hl
  refine outerL (hb := h₄) ⟨⟨_, _, S4⟩, ⟨oS, eS⟩, z, t97', t109'⟩ W4 (wordsSpell a b W4.gd L1) (signsSpell W4.gd L2 rfl C4) (S4.base hs) em4 ek4 ew4 es4 hl hi hvs fun h' tk' k' => ?_
  exact kk h' tk' (old_kp G z k')
end Mine
end
open PySem PySem.W PySem.W.X PySem.W.ZRun PyProof.Rows in
set_option maxRecDepth 100000 in
set_option maxHeartbeats 0 in
theorem PySem.Challenge.cw_oh0005_01_holds : PySem.Challenge.rw_oh0005_01.Holds := by
  w_on; o_law; z_head; (case hw => w_witness2)
  k_fill
  intro w s₀ s₁ mg mb G y fa o pm cd doc dV kV ho hd hcd hD hmg hg args vals as L hpre hlay hrd hwl hlo
  z_open y L KX ZH ZN ZT
  refine Ground.open G ?_
  intro T B D TE TW
  wrow_args hpre hlay hrd hwl hlo
  obtain ⟨hat, hsz⟩ := script_at L
  have htk := script_toks L ZT
  rw [ZN] at hat hsz
  subst hat
  x_fa T KX hmg
  all_lens
  rename_i hi9 hb9
  refine Mine.lawRun (s := s₁) hsz hg KX ZH (by assumption) hi9 (by omega) fun h' tk hK => ?_
  refine ⟨.inl ⟨_, _, [], rfl, fun _ => rfl, ReadsW.bool true, ?_, fun _ => ⟨List.nodup_nil, fun _ hm => (nomatch hm)⟩⟩, hK, rfl, AllBare.of_eq hg⟩
  first | rfl | wrow_post

