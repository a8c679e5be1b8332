import PyProof.Rows.All
import Wide.All
import OpenK.AllK
import Wide.FinOn
import Lean
import PySem.Challenge.RW_uq0014_01
open PySem PySem.W PyProof.Rows PySem.Calls
set_option Elab.async false
set_option linter.all false
set_option maxRecDepth 100000
set_option maxHeartbeats 8000000
set_option genSizeOf false
set_option genInjectivity false
namespace Mine
noncomputable section


-- the program's defs, by their place in the row
def stAt (i : Nat) : Stmt := (PySem.Challenge.pw_uq0014_01.main.body[i]?).getD (.Pass ⟨0, 0, 0, 0⟩)
noncomputable def bodyOf : Stmt → List Stmt
  | .FunctionDef _ _ b _ _ _ _ _ _ _ => b
  | .ClassDef _ _ _ b _ _ _ _ _ _ _ => b
  | _ => []
noncomputable def scopeOf : Stmt → Scope
  | .FunctionDef _ _ _ _ _ _ sc _ _ _ => sc
  | _ => { kind := .module, names := [], isGenerator := false, isCoroutine := false }
noncomputable def paramsOf : Stmt → Arguments
  | .FunctionDef _ a _ _ _ _ _ _ _ _ => a
  | _ => ⟨[], [], none, [], [], none, []⟩
noncomputable def nameOf : Stmt → Str
  | .FunctionDef n _ _ _ _ _ _ _ _ _ => n
  | _ => Str.ofString ""
noncomputable def meth (i j : Nat) : Stmt := ((bodyOf (stAt i))[j]?).getD (.Pass ⟨0, 0, 0, 0⟩)

inductive At {β : Type} (x : Str) (v : β) : List (Str × β) → Prop
  | hd {r} : At x v ((x, v) :: r)
  | tl {p r} : At x v r → At x v (p :: r)
theorem At.mem {β : Type} {x : Str} {v : β} {l : List (Str × β)} (h : At x v l) : (x, v) ∈ l := by
  induction h with
  | hd => exact .head _
  | tl _ ih => exact .tail _ ih
/-- what the frame's names hold: a list, each name once -/
noncomputable def Lk (m : Str → Option Value) (l : List (Str × Value)) : Prop := ∀ p ∈ l, m p.1 = some p.2
inductive Put (x : Str) (v : Value) : List (Str × Value) → List (Str × Value) → Prop
  | new : Put x v [] [(x, v)]
  | here {w r} : Put x v ((x, w) :: r) ((x, v) :: r)
  | next {y w r r'} : y ≠ x → Put x v r r' → Put x v ((y, w) :: r) ((y, w) :: r')
noncomputable def Apart (x : Str) : List (Str × Value) → Prop
  | [] => True
  | (y, _) :: r => y ≠ x ∧ Apart x r
inductive PutD (x : Str) (v : Value) : List (Str × Value) → List (Str × Value) → Prop
  | new : PutD x v [] [(x, v)]
  | here {w r} : Apart x r → PutD x v ((x, w) :: r) ((x, v) :: r)
  | next {y w r r'} : y ≠ x → PutD x v r r' → PutD x v ((y, w) :: r) ((y, w) :: r')
theorem Apart.nil {x : Str} : Apart x [] := trivial
theorem Apart.cons {x y : Str} {v : Value} {r : List (Str × Value)} (h : y ≠ x) (k : Apart x r) : Apart x ((y, v) :: r) := ⟨h, k⟩
theorem Apart.ne {x : Str} : ∀ {l : List (Str × Value)}, Apart x l → ∀ p ∈ l, p.1 ≠ x
  | (_, _) :: _, h, _, .head _ => h.1
  | (_, _) :: _, h, _, .tail _ m => Apart.ne h.2 _ m
theorem Lk.put {m : Str → Option Value} {x : Str} {v : Value} {l l' : List (Str × Value)} (P : PutD x v l l') (h : Lk m l) : Lk (fun y => if y = x then some v else m y) l' := by
  induction P with
  | new => intro p hp; cases hp with
    | head => simp
    | tail _ hp => cases hp
  | here ha => intro p hp; cases hp with
    | head => simp
    | tail _ hp => simp only [if_neg (ha.ne p hp)]; exact h p (.tail _ hp)
  | next hn _ ih => intro p hp; cases hp with
    | head => simp only [if_neg hn]; exact h _ (.head _)
    | tail _ hp => exact ih (fun q hq => h q (.tail _ hq)) p hp
theorem Lk.sub {m : Str → Option Value} {l l' : List (Str × Value)} (h : Lk m l) (k : ∀ p ∈ l', p ∈ l) : Lk m l' := fun p hp => h p (k p hp)
theorem lookup_nodup {x : Str} {v : Value} : ∀ {b : List (Str × Value)}, (b.map (·.1)).Nodup → (x, v) ∈ b → b.lookup x = some v
  | (y, w) :: r, hn, hm => by
    rw [List.map_cons, List.nodup_cons] at hn
    cases hm with
    | head => simp [List.lookup]
    | tail _ hm =>
      have hne : x ≠ y := fun e => hn.1 (e ▸ List.mem_map_of_mem (f := (·.1)) hm)
      have : (x == y) = false := by simpa using hne
      simp only [List.lookup, this]
      exact lookup_nodup hn.2 hm
/-- binds, each name once: what bindArgs hands on -/
theorem Lk.binds {b : List (Str × Value)} (hb : (b.map (·.1)).Nodup) : Lk (fun y => b.reverse.lookup y) b := by
  intro p hp
  obtain ⟨x, v⟩ := p
  refine lookup_nodup ?_ (List.mem_reverse.mpr hp)
  rw [List.map_reverse]; exact (List.reverse_perm _).nodup_iff.mpr hb
/-- the frame: its base, its place, its names -/
noncomputable def Fl (g : Heap) (L : Addr) (h : Heap) (l : List (Str × Value)) : Prop := ∃ m, Fr g L h m ∧ Lk m l
theorem Fl.keep {g h : Heap} {L : Addr} {l : List (Str × Value)} (F : Fl g L h l) : ∀ b o, g.get? b = some o → h.get? b = some o := let ⟨_, F, _⟩ := F; F.keep
theorem Fl.sub {g h : Heap} {L : Addr} {l l' : List (Str × Value)} (F : Fl g L h l) (k : ∀ p ∈ l', p ∈ l) : Fl g L h l' := let ⟨m, F, K⟩ := F; ⟨m, F, K.sub k⟩

noncomputable def NoE : Value → Shared → Prop := fun _ _ => False
noncomputable def Sub (g h : Heap) : Prop := ∀ b o, g.get? b = some o → h.get? b = some o
noncomputable def Keep (W : List Addr) (h h' : Heap) : Prop := ∀ b o, b ∉ W → h.get? b = some o → h'.get? b = some o
theorem Keep.sub {h h' : Heap} (k : Keep [] h h') : Sub h h' := fun b o e => k b o (fun m => nomatch m) e
theorem Keep.of {h h' : Heap} (k : Sub h h') : Keep [] h h' := fun b o _ e => k b o e
theorem Keep.trans {W h h' h''} (x : Keep W h h') (y : Keep W h' h'') : Keep W h h'' := fun b o n e => y b o n (x b o n e)
theorem Sub.trans {h h' h''} (x : Sub h h') (y : Sub h' h'') : Sub h h'' := fun b o e => y b o (x b o e)
theorem Sub.refl {h} : Sub h h := fun _ _ e => e

structure Cx (K : Frag) (h : Heap) : Prop where
  X : K.In h
  T : ∃ p loose mean mg mb, Top p loose mean mg mb h
theorem Cx.keeps {K h h'} (C : Cx K h) (k : Sub h h') : Cx K h' :=
  ⟨C.X.keeps k, let ⟨p, l, me, mg, mb, T⟩ := C.T; ⟨p, l, me, mg, mb, T.keeps k⟩⟩
theorem Cx.lim {K h} (C : Cx K h) : h.NoLimit := let ⟨_, _, _, _, _, T⟩ := C.T; T.nolimit

/-- the globals that the text reads, as the top leaves them; none: a built-in -/
@[reducible] noncomputable def globTab : List (Str × Option Value) := [
  (Str.ofString "rgb_to_hls", some (.ref 21)), (Str.ofString "rgb_to_hsv", some (.ref 28)), (Str.ofString "_iter_escaped_chars", some (.ref 35)),
  (Str.ofString "_strip_quoted_realnames", some (.ref 42)), (Str.ofString "_check_parenthesis", some (.ref 49)), (Str.ofString "_netrclex", some (.ref 87)),
  (Str.ofString "ENDMARKER", some (.int 0 322)), (Str.ofString "EXACT_TOKEN_TYPES", some (.ref 92)), (Str.ofString "ISEOF", some (.ref 101)),
  (Str.ofString "_law_tree", some (.ref 108)), (Str.ofString "_law_words", some (.ref 115)), (Str.ofString "_law_spelled", some (.ref 120)), (Str.ofString "_law_lexer", some (.ref 127)),
  (Str.ofString "_law_number", some (.ref 132)), (Str.ofString "_law_play", some (.ref 139)), (Str.ofString "_law_worth", some (.ref 144)), (Str.ofString "_law_roads", some (.ref 149)),
  (Str.ofString "max", none), (Str.ofString "min", none), (Str.ofString "enumerate", none), (Str.ofString "len", none), (Str.ofString "range", none), (Str.ofString "iter", none),
  (Str.ofString "isinstance", none), (Str.ofString "int", none), (Str.ofString "list", none), (Str.ofString "sum", none), (Str.ofString "sorted", none)]
@[reducible] noncomputable def bootTab : List (Str × Value) := [
  (Str.ofString "max", .builtin "max"), (Str.ofString "min", .builtin "min"), (Str.ofString "enumerate", .type "enumerate"), (Str.ofString "len", .builtin "len"), (Str.ofString "range", .type "range"), (Str.ofString "iter", .builtin "iter"),
  (Str.ofString "isinstance", .builtin "isinstance"), (Str.ofString "int", .type "int"), (Str.ofString "list", .type "list"), (Str.ofString "sum", .builtin "sum"), (Str.ofString "sorted", .builtin "sorted")]
theorem boot_tab : ∀ {x : Str} {v : Value}, At x v bootTab → bootBuiltins x = some v ∧ x ≠ "__name__" := by
  intro x v h
  have := h.mem
  simp only [bootTab, List.mem_cons, Prod.mk.injEq, List.mem_nil_iff, or_false] at this
  rcases this with ⟨rfl, rfl⟩ | ⟨rfl, rfl⟩ | ⟨rfl, rfl⟩ | ⟨rfl, rfl⟩ | ⟨rfl, rfl⟩ | ⟨rfl, rfl⟩ | ⟨rfl, rfl⟩ | ⟨rfl, rfl⟩ | ⟨rfl, rfl⟩ | ⟨rfl, rfl⟩ | ⟨rfl, rfl⟩ <;> exact ⟨by boot_fast, by decide +kernel⟩

/-- a def of the text, as the written heap bears it -/
structure FnK (K : Frag) (f : Addr) (st : Stmt) (q : Str) (c : Addr) : Prop where
  look : ∃ oc od osl doc pm an ct, K.lookup f = some ⟨oc, od, .func (fnX (nameOf st) q (paramsOf st) (bodyOf st) (scopeOf st) [] .none .none doc pm an (.ref c) ct), osl⟩
  code : codeIn K (.ref c) q = true
structure KOk (K : Frag) : Prop where
  glob : ∀ {x : Str} {v : Option Value}, At x v globTab → nsIn K mainGlobals x = some v
  fHls : FnK K 21 (stAt 1) (Str.ofString "rgb_to_hls") 20
  fHsv : FnK K 28 (stAt 2) (Str.ofString "rgb_to_hsv") 27
  fIter : FnK K 35 (stAt 4) (Str.ofString "_iter_escaped_chars") 34
  fStrip : FnK K 42 (stAt 5) (Str.ofString "_strip_quoted_realnames") 41
  fCheck : FnK K 49 (stAt 6) (Str.ofString "_check_parenthesis") 48
  fIseof : FnK K 101 (stAt 60) (Str.ofString "ISEOF") 100
  fTree : FnK K 108 (stAt 62) (Str.ofString "_law_tree") 107
  fWords : FnK K 115 (stAt 63) (Str.ofString "_law_words") 114
  fSpelled : FnK K 120 (stAt 64) (Str.ofString "_law_spelled") 119
  fLexer : FnK K 127 (stAt 65) (Str.ofString "_law_lexer") 126
  fNumber : FnK K 132 (stAt 66) (Str.ofString "_law_number") 131
  fPlay : FnK K 139 (stAt 67) (Str.ofString "_law_play") 138
  fWorth : FnK K 144 (stAt 68) (Str.ofString "_law_worth") 143
  fRoads : FnK K 149 (stAt 69) (Str.ofString "_law_roads") 148
  fInit : FnK K 63 (meth 8 0) (Str.ofString "_netrclex.__init__") 62
  fRead : FnK K 70 (meth 8 1) (Str.ofString "_netrclex._read_char") 69
  fGet : FnK K 77 (meth 8 2) (Str.ofString "_netrclex.get_token") 76
  fPush : FnK K 84 (meth 8 3) (Str.ofString "_netrclex.push_token") 83

/-- room left: frames, C units; nothing is being handled -/
structure Rm (A : Around) (n : Nat) : Prop where
  h : A.handled = none
  d : A.depth + n ≤ 900
  u : A.units + 10 * n ≤ 9800
theorem Rm.room {A n} (R : Rm A n) : A.depth < recursionLimit := by have := R.d; show A.depth < 1000; omega
theorem Rm.units {A n} (R : Rm A n) : A.units < cLine := by have := R.u; show A.units < 9900; omega
theorem Rm.deeper {A n} (R : Rm A (n + 1)) (e : Env) : Rm (A.deeper e) n := ⟨R.h, by have := R.d; show A.depth + 1 + n ≤ 900; omega, by have := R.u; show A.units + 3 + 10 * n ≤ 9800; omega⟩
theorem Rm.in1 {A n} (R : Rm A (n + 1)) : Rm A.in1 n := ⟨R.h, by have := R.d; show A.depth + n ≤ 900; omega, by have := R.u; show A.units + 1 + 10 * n ≤ 9800; omega⟩
theorem Rm.le {A n m} (R : Rm A n) (h : m ≤ n) : Rm A m := ⟨R.h, by have := R.d; omega, by have := R.u; omega⟩

section
variable {prog : Program} {w : World} {A : Around} {E : Value → Shared → Prop} {s : Shared} {K : Frag} {g : Heap} {L a : Addr} {l : List (Str × Value)} {cn : Str} {cs : Scope} {ccd : Value} {cl : List (Str × Addr)} {news : List (Addr × Obj)}

/-- the kinds of a scope's names -/
noncomputable def Kinds (cs : Scope) (kt : List (Str × NameKind)) : Prop := ∀ p ∈ kt, cs.names.lookup p.1 = some p.2
theorem Kinds.of {cs : Scope} {kt : List (Str × NameKind)} (h : (kt.all fun p => decide (cs.names.lookup p.1 = some p.2)) = true) : Kinds cs kt := fun p hp => of_decide_eq_true (List.all_eq_true.mp h p hp)
noncomputable def NoDbg (l : List Str) : Prop := ∀ x ∈ l, (x == ("__debug__" : Str)) = false
structure Sc (cs : Scope) (kt : List (Str × NameKind)) : Prop where
  k : cs.kind = .function
  t : Kinds cs kt
  d : ∀ p ∈ kt, (p.1 == ("__debug__" : Str)) = false
theorem Sc.of {cs : Scope} {kt : List (Str × NameKind)} (k : cs.kind = .function) (h : (kt.all fun p => decide (cs.names.lookup p.1 = some p.2) && !(p.1 == ("__debug__" : Str))) = true) : Sc cs kt := by
  have z := fun p hp => Bool.and_eq_true_iff.mp (List.all_eq_true.mp h p hp)
  exact ⟨k, fun p hp => of_decide_eq_true (z p hp).1, fun p hp => by simpa using (z p hp).2⟩

theorem nmL {kt} {x : Str} {pos : Pos} {v : Value} {Q : Value → Shared → Prop} (S : Sc cs kt) (F : Fl g L s.heap l) (hx : At x NameKind.local kt) (hv : At x v l) (h : Q v s) :
    wpAny (model prog w) A (eval (.Name x pos) (envX cn cs L a ccd cl)) Q E s := let ⟨_, F, K⟩ := F; nameX_L F (K _ hv.mem) h S.k (S.t _ hx.mem) (S.d _ hx.mem)
theorem nmG {kt} {x : Str} {pos : Pos} {v : Value} {Q : Value → Shared → Prop} (hK : KOk K) (S : Sc cs kt) (F : Fl g L s.heap l) (C : Cx K g) (hx : At x NameKind.globalImplicit kt) (e : At x (some v) globTab) (h : Q v s) :
    wpAny (model prog w) A (eval (.Name x pos) (envX cn cs L a ccd cl)) Q E s :=
  let ⟨_, F, _⟩ := F; let ⟨_, _, _, _, _, T⟩ := C.T; nameX_K F C.X (topRead_of T) (hK.glob e) h S.k (S.t _ hx.mem) (S.d _ hx.mem)
theorem nmB {kt} {x : Str} {pos : Pos} {v : Value} {Q : Value → Shared → Prop} (hK : KOk K) (S : Sc cs kt) (F : Fl g L s.heap l) (C : Cx K g) (hx : At x NameKind.globalImplicit kt) (e : At x none globTab) (hv : At x v bootTab) (h : Q v s) :
    wpAny (model prog w) A (eval (.Name x pos) (envX cn cs L a ccd cl)) Q E s :=
  let ⟨_, F, _⟩ := F; let ⟨_, _, _, _, _, T⟩ := C.T; nameX_B F C.X (topRead_of T) (hK.glob e) (boot_tab hv).1 (boot_tab hv).2 h S.k (S.t _ hx.mem) (S.d _ hx.mem)
theorem ldL {kt} {x : Str} {v : Value} {Q : Value → Shared → Prop} (S : Sc cs kt) (F : Fl g L s.heap l) (hx : At x NameKind.local kt) (hv : At x v l) (h : Q v s) :
    wpAny (model prog w) A (loadName (envX cn cs L a ccd cl) x) Q E s := let ⟨_, F, K⟩ := F; wpAny_loadName_local S.k (S.t _ hx.mem) F.ns (K _ hv.mem) h
theorem stL {kt} {x : Str} {v : Value} {l' : List (Str × Value)} {Q : Unit → Shared → Prop} (S : Sc cs kt) (F : Fl g L s.heap l) (N : News g L s.heap news) (hx : At x NameKind.local kt) (hp : PutD x v l l')
    (h : ∀ h', Fl g L h' l' → News g L h' news → Q () { s with heap := h', toks := s.toks + 1 }) : wpAny (model prog w) A (storeName (envX cn cs L a ccd cl) x v) Q E s :=
  let ⟨_, F, K⟩ := F
  storeX_L F N (fun h' F' N' => h h' ⟨_, F', K.put hp⟩ N') S.k (S.t _ hx.mem)

theorem iteT {c : Bool} {a b : Prop} (hc : c = true) (h : a) : if c = true then a else b := by rw [hc]; exact h
theorem iteF {c : Bool} {a b : Prop} (hc : c = false) (h : b) : if c = true then a else b := by rw [hc]; exact h

structure Plain (st : Stmt) : Prop where
  co : (scopeOf st).isCoroutine = false
  gen : (scopeOf st).isGenerator = false
  cell : ((scopeOf st).names.all fun x => decide (x.2 ≠ .cell)) = true
noncomputable def retv : Flow → Value
  | .ret v => v
  | _ => .none

noncomputable abbrev retR (Q E : Value → Shared → Prop) : Result → Shared → Prop := fun r s' => match r with | .ok (.ret v) => Q v s' | .ok _ => False | .error e => E e s'
theorem enter {f c : Addr} {st : Stmt} {q : Str} {args : List Value} {binds : List (Str × Value)} {B : Heap} {Q : Value → Shared → Prop} {n : Nat} (R : Rm A n)
    (FK : FnK K f st q c) (C : Cx K B) (hs : Sub B s.heap) (hn : ∀ p ∈ news, s.heap.get? p.1 = some p.2 ∧ B.get? p.1 = none)
    (hbind : ∀ doc pm an ct, bindArgs (fnX (nameOf st) q (paramsOf st) (bodyOf st) (scopeOf st) [] .none .none doc pm an (.ref c) ct) ⟨args, []⟩ = pure binds)
    {kt : List (Str × NameKind)} (S : Sc (scopeOf st) kt) (hloc : ∀ p ∈ binds, (p.1, NameKind.local) ∈ kt) {names : List Str} (hnm : binds.map (·.1) = names) (hnd : names.Nodup)
    {body : List Stmt} (hb : bodyOf st = body) (P : Plain st)
    (h : ∀ g L h₁, Sub B g → Cx K g → Fl g L h₁ binds → News g L h₁ news → Keep (news.map (·.1)) s.heap g →
      wpAny (model prog w) (A.deeper (envX q (scopeOf st) L f (.ref c) [])) (execs body (envX q (scopeOf st) L f (.ref c) [])) (fun fl s' => Q (retv fl) s') NoE
        { s with heap := h₁, toks := s.toks + binds.length }) :
    codeAny (model prog w) A (.call (.ref f) ⟨args, []⟩) (retR Q E) s := by
  obtain ⟨oc, od, osl, doc, pm, an, ct, ho⟩ := FK.look
  have X := C.X.keeps hs
  refine codeAny_call_def (R := retR Q E) (fd := fnX (nameOf st) q (paramsOf st) (bodyOf st) (scopeOf st) [] .none .none doc pm an (.ref c) ct) (body := bodyOf st) (binds := binds) R.room (X _ _ ho) rfl
    (C.lim.keeps hs) (codeRec_of X FK.code) rfl (BindsTo.of_eq (hbind doc pm an ct)) (fun x hx => of_decide_eq_true (List.all_eq_true.mp P.cell x hx)) (fun x hx => S.t _ (hloc x hx)) (fun h₁ hns hk₁ => ?_) P.co P.gen S.k
  have nm : ∀ b o, B.get? b = some o → b ∉ news.map (·.1) := fun b o e q => by
    obtain ⟨p, hp, rfl⟩ := List.mem_map.mp q
    rw [(hn p hp).2] at e; cases e
  have kp : Keep (news.map (·.1)) s.heap (hideAll s.heap (news.map (·.1))) := fun b o n e => hideAll_get _ e n
  have sb : Sub B (hideAll s.heap (news.map (·.1))) := fun b o e => kp b o (nm b o e) (hs b o e)
  refine wpAny_mono (hb ▸ h _ s.heap.objs.size h₁ sb (C.keeps sb) ⟨_, ⟨hns, fun b o e => hk₁ b o (of_hideAll _ e), Nat.le_of_eq (hideAll_size _ _)⟩, Lk.binds (hnm ▸ hnd)⟩
    (fun p hp => ⟨hk₁ _ _ (hn p hp).1, Nat.ne_of_lt (Heap.lt_size (hn p hp).1), hideAll_none _ (List.mem_map_of_mem hp)⟩) kp) (fun fl s' hq => ?_) (fun _ _ x => x.elim)
  cases fl <;> exact hq
end

-- loops of a def's frame
section
variable {prog : Program} {w : World} {A : Around} {E : Value → Shared → Prop} {s : Shared} {env : Env}
theorem toE {α : Type} {M : Model} {A : Around} {E : Value → Shared → Prop} {s : Shared} {t : Sem α} {Q : α → Shared → Prop} (h : wpAny M A t Q NoE s) : wpAny M A t Q E s := wpAny_mono h (fun _ _ x => x) fun _ _ x => x.elim

theorem for_turns {target it : _} {body : List Stmt} {R : Result → Shared → Prop} (I : Nat → Shared → Prop)
    (turn : ∀ n s, I n s → wpAny (model prog w) A (pyNext it) (fun r s₁ => match r with
      | none => R (.ok .next) s₁
      | some v => wpAny (model prog w) A (letOwnedTupleGo target it v) (fun _ s₂ => wpAny (model prog w) A (assign target env v) (fun _ s₃ => wpAny (model prog w) A (execs body env) (fun f s₄ => match f with
          | .next | .cont => ∃ m, m < n ∧ I m s₄
          | .brk => R (.ok .next) s₄
          | .ret v => R (.ok (.ret v)) s₄) NoE s₃) NoE s₂) NoE s₁) NoE s) (n : Nat) (h : I n s) :
    codeAny (model prog w) A (.forLoop target it body [] env) R s := by
  refine codeAny_forLoop_any I (fun n s hI => toE (wpAny_mono (turn n s hI) (fun r s₁ h₁ => ?_) fun _ _ x => x.elim)) n h
  cases r with
  | none => exact wpAny_execs_nil h₁
  | some v => exact toE (wpAny_mono h₁ (fun _ s₂ h₂ => toE (wpAny_mono h₂ (fun _ s₃ h₃ => toE (wpAny_mono h₃ (fun f s₄ h₄ => by cases f <;> exact h₄) fun _ _ x => x.elim)) fun _ _ x => x.elim)) fun _ _ x => x.elim)

theorem for_stmt {target iter : Expr} {body : List Stmt} {pos : Pos} {Q : Flow → Shared → Prop}
    (h : wpAny (model prog w) A (eval iter env) (fun x s₁ => wpAny (model prog w) A (pyIter x) (fun it s₂ =>
      codeAny (model prog w) A (.forLoop target it body [] env) (fun r s' => match r with | .ok f => Q f s' | .error _ => False) s₂) NoE s₁) NoE s)
    (hs : ∀ x, foldedSetIterable iter env x = pure x := by intro _; rfl) : wpAny (model prog w) A (exec (.For target iter body [] pos) env) Q E s :=
  wpAny_For (toE (wpAny_mono h (fun x s₁ h₁ => toE (wpAny_mono h₁ (fun it s₂ h₂ => codeAny_mono h₂ fun r s' h' => by cases r <;> first | exact h' | exact h'.elim) fun _ _ x => x.elim)) fun _ _ x => x.elim)) hs
end

-- the statements of a generator
section
variable {M : Model} {A : Around} {R : GenEnd} {Y : Protocol} {n : Nat} {s₀ : Shared} {c : Code} {fs : List Frame} {s : Shared} {env : Env}
  {K : Flow → Sem Fin} {H : Value → Sem Fin} {gd : Bool → Bool} {lv : List Value → List Value}
theorem sg_stmt {st : Stmt} {rest : List Stmt} (h : wpAny M (A.over c fs) (exec st env) (fun f s' => f = .next ∧ Seg M A R Y n s₀ c ((execs rest env).wrap K H gd lv) fs s') NoE s) :
    Seg M A R Y n s₀ c ((execs (st :: rest) env).wrap K H gd lv) fs s := by
  refine seg_execs_cons (seg_wrap (wpAny_mono h (fun f s' h' => ?_) fun _ _ x => x.elim))
  obtain ⟨rfl, h'⟩ := h'
  exact h'
noncomputable def forK (K : Flow → Sem Fin) (H : Value → Sem Fin) (gd : Bool → Bool) (lv : List Value → List Value) (env : Env) (rest : List Stmt) : Result → Sem Fin := fun r =>
  ((match r with | .ok f => (.pure f : Sem Flow) | .error e => .raise e).onRaise fun (x : Value) => do
        if (← field x 1) == Value.none then unsupported "frame.own-activation:exception-without-traceback"
        setFlight x env.frame).wrap (fun (f : Flow) => match f with | .next => (execs rest env).wrap K H gd lv | f => K f) H gd lv
theorem sg_for {target iter : Expr} {body rest : List Stmt} {pos : Pos}
    (h : wpAny M (A.over c fs) (eval iter env) (fun x s₁ => wpAny M (A.over c fs) (pyIter x) (fun it s₂ => ∀ p,
      Seg M A R Y n s₀ (.forLoop target it body [] env) (M.den (.forLoop target it body [] env)) (.ret (forK K H gd lv env rest) none (gd false) (lv []) c p [] :: fs) s₂) NoE s₁) NoE s)
    (hs : ∀ x, foldedSetIterable iter env x = pure x := by intro _; rfl) :
    Seg M A R Y n s₀ c ((execs (.For target iter body [] pos :: rest) env).wrap K H gd lv) fs s := by
  refine seg_execs_cons ?_
  rw [exec_For]
  refine seg_bind_wrap (wpAny_standAt ?_)
  refine seg_bind_wrap (toE (wpAny_mono h (fun x s₁ h₁ => ?_) fun _ _ x => x.elim))
  refine seg_bind_wrap (wpAny_of_eq (hs x) (seg_bind_wrap (wpAny_standAt ?_)))
  refine seg_bind_wrap (wpAny_holding (toE (wpAny_mono h₁ (fun it s₂ h₂ => ?_) fun _ _ x => x.elim)))
  exact seg_call h₂
end
section
variable {prog : Program} {w : World} {A : Around} {R : GenEnd} {Y : Protocol} {n : Nat} {s₀ : Shared} {c : Code} {fs : List Frame} {s : Shared} {env : Env}
  {K : Flow → Sem Fin} {H : Value → Sem Fin} {gd : Bool → Bool} {lv : List Value → List Value}
noncomputable def loopK (code : Code) : Flow → Sem Fin := fun f => match f with
  | .next | .cont => .pure (.again code)
  | .brk => .pure (.done .next)
  | .ret v => .pure (.done (.ret v))
noncomputable def loopH (env : Env) : Value → Sem Fin := fun e => (do noteFrame e env; theTreesLotGoes e : Sem Unit).wrap (fun _ => .raise e) .raise id id
theorem sg_loop {target : Expr} {it : Value} {body rest : List Stmt} {p : Pos} {l : List Value} {g' : Bool}
    (h : wpAny (model prog w) (A.over (.forLoop target it body [] env) (.ret (forK K H gd lv env rest) none g' l c p [] :: fs)) (pyNext it) (fun r s₁ => match r with
      | none => Seg (model prog w) A R Y n s₀ c ((execs rest env).wrap K H gd lv) fs s₁
      | some v => wpAny (model prog w) (A.over (.forLoop target it body [] env) (.ret (forK K H gd lv env rest) none g' l c p [] :: fs)) (letOwnedTupleGo target it v) (fun _ s₂ =>
          wpAny (model prog w) (A.over (.forLoop target it body [] env) (.ret (forK K H gd lv env rest) none g' l c p [] :: fs)) (assign target env v) (fun _ s₃ =>
            Seg (model prog w) A R Y n s₀ (.forLoop target it body [] env) ((execs body env).wrap (loopK (.forLoop target it body [] env)) (loopH env) id id) (.ret (forK K H gd lv env rest) none g' l c p [] :: fs) s₃) NoE s₂) NoE s₁) NoE s) :
    Seg (model prog w) A R Y n s₀ (.forLoop target it body [] env) ((model prog w).den (.forLoop target it body [] env)) (.ret (forK K H gd lv env rest) none g' l c p [] :: fs) s := by
  show Seg _ A R Y n s₀ _ ((forTurn target it body [] env).onRaise (fun x => do noteFrame x env; theTreesLotGoes x)) _ s
  unfold forTurn
  rw [Sem.onRaise_eq_wrap]
  refine seg_bind_wrap (wpAny_standAt ?_)
  refine seg_bind_wrap (wpAny_onRaise (toE (wpAny_mono h (fun r s₁ h₁ => ?_) fun _ _ x => x.elim)))
  cases r with
  | none =>
    refine seg_again rfl ?_
    show Seg _ A R Y n s₀ _ (leafOf (.ok .next)) _ s₁
    exact seg_leaf (.ok .next) h₁
  | some v =>
    refine seg_bind_wrap (toE (wpAny_mono h₁ (fun _ s₂ h₂ => ?_) fun _ _ x => x.elim))
    refine seg_bind_wrap (toE (wpAny_mono h₂ (fun _ s₃ h₃ => ?_) fun _ _ x => x.elim))
    rw [Sem.bind_eq_wrap', Sem.wrap_wrap]
    rw [Sem.wrap_congr (execs body env) _ _ (K' := loopK (.forLoop target it body [] env)) (H' := loopH env) (fun f => by cases f <;> rfl) (fun e => by
      show Sem.wrap _ _ _ _ (Sem.raise e) = _
      first | exact Sem.bind_eq_wrap _ _ | (unfold loopH; simp only [Sem.wrap]; exact Sem.bind_eq_wrap _ _))]
    exact h₃
end

-- the generator _iter_escaped_chars
theorem ext_sub {h h' : Heap} (k : Heap.ExtBut h.objs.size h h') : Sub h h' := fun b o e => k b o (Nat.ne_of_lt (Heap.lt_size e)) e
theorem Fl.ext {g h h' : Heap} {L : Addr} {l : List (Str × Value)} (F : Fl g L h l) (k : Sub h h') : Fl g L h' l :=
  let ⟨m, F, K⟩ := F; ⟨m, ⟨F.ns.keeps k, fun b o e => k b o (F.keep b o e), F.above⟩, K⟩
theorem News.ext {g h h' : Heap} {L : Addr} {news : List (Addr × Obj)} (N : News g L h news) (k : Sub h h') : News g L h' news := fun p hp => ⟨k _ _ (N p hp).1, (N p hp).2⟩
noncomputable def units : Nat → Bool → List Nat → List (Nat × List Nat)
  | p, esc, [] => if esc then [(p - 1, [92])] else []
  | p, true, c :: r => (p, [92, c]) :: units (p + 1) false r
  | p, false, c :: r => if c = 92 then units (p + 1) true r else (p, [c]) :: units (p + 1) false r
noncomputable def isIt (v : Value) : Bool := v == .type "enumerate" || v == .type "str_ascii_iterator"
noncomputable def Ity (n₀ : Addr) (b : Addr) (o : Obj) : Prop := b = n₀ ∨ (n₀ < b ∧ isIt o.cls = true ∧ ∀ es ep, o.data ≠ .dict es ep)
noncomputable def KeepG (n₀ : Addr) (h h' : Heap) : Prop := ∀ b o, h.get? b = some o → ¬ Ity n₀ b o → h'.get? b = some o
noncomputable def KeepI (n₀ : Addr) (h h' : Heap) : Prop := ∀ b o, h.get? b = some o → Ity n₀ b o → h'.get? b = some o
theorem KeepG.trans {n₀ h h' h''} (x : KeepG n₀ h h') (y : KeepG n₀ h' h'') : KeepG n₀ h h'' := fun b o e n => y b o (x b o e n) n
theorem KeepG.of {n₀ h h'} (k : Sub h h') : KeepG n₀ h h' := fun b o e _ => k b o e
theorem KeepG.ofKeep {n₀ h h'} (k : Keep [n₀] h h') : KeepG n₀ h h' := fun b o e n => k b o (fun m => n (.inl (List.mem_singleton.mp m))) e
noncomputable def GenRel (n₀ : Addr) (s₀ s : Shared) : Prop := ∃ h' tk, s = { s₀ with heap := h', toks := tk } ∧ KeepG n₀ s₀.heap h'
theorem GenRel.refl {n₀ s} : GenRel n₀ s s := ⟨s.heap, s.toks, rfl, fun _ _ e _ => e⟩
theorem GenRel.step {n₀ s₀ s} (x : GenRel n₀ s₀ s) {h' : Heap} {tk : Nat} (k : KeepG n₀ s.heap h') : GenRel n₀ s₀ { s with heap := h', toks := tk } := by
  obtain ⟨h₁, t₁, rfl, k₁⟩ := x
  exact ⟨h', tk, rfl, k₁.trans k⟩
noncomputable def pairObj (p : Int) (tp : Tok) (u : List Nat) (tu : Tok) : Obj := { cls := .type "tuple", data := .seq #[.int p tp, .str ⟨u.toArray⟩ tu] }
noncomputable def YE (n₀ : Addr) (B : Heap) (U : List (Nat × List Nat)) : Protocol := fun n s₀ v s₁ kap =>
  (∃ T p u tp tu, v = .ref T ∧ s₁.heap.get? T = some (pairObj (p : Nat) tp u tu) ∧ U[U.length - 1 - n]? = some (p, u)) ∧ GenRel n₀ s₀ s₁ ∧ ∀ s'' : Shared, KeepI n₀ s₁.heap s''.heap → Sub B s''.heap → kap (.send .none) s''
noncomputable def RE (n₀ : Addr) : GenEnd := fun n s₀ r s₁ => r = .ok (.ret .none) ∧ n = 0 ∧ GenRel n₀ s₀ s₁

section
variable {prog : Program} {w : World} {A : Around} {E : Value → Shared → Prop} {s : Shared} {K : Frag} {g : Heap} {L a : Addr} {l l1 l2 : List (Str × Value)} {cn : Str} {cs : Scope} {ccd : Value} {cl : List (Str × Addr)} {news : List (Addr × Obj)}
theorem stK {kt} {x : Str} {v : Value} {hp : Heap} {ge : Array GenState} {dr : Drawn} {tk : Nat} {os : OsState} {Q : Unit → Shared → Prop} (S : Sc cs kt) (F : Fl g L hp l) (N : News g L hp news) (hx : At x NameKind.local kt) (hp' : PutD x v l l1)
    (h : ∀ h', Fl g L h' l1 → News g L h' news → Keep [L] hp h' → Q () ⟨h', ge, dr, tk + 1, os⟩) : wpAny (model prog w) A (storeName (envX cn cs L a ccd cl) x v) Q E ⟨hp, ge, dr, tk, os⟩ := by
  obtain ⟨m, F, Km⟩ := F
  exact wpAny_storeName_local (S.t _ hx.mem) F.ns (fun h' hn hs => h h' ⟨_, F.set hn hs, Km.put hp'⟩ (N.set hs) fun b o n e => hs.extBut b o (fun q => n (List.mem_singleton.mpr q)) e)
    (by show (cs.kind == .class || (cs.kind == .module && L != mainGlobals)) = false; rw [S.k]; rfl)
theorem cInt {env : Env} {i : Int} {k : Nat} {pos : Pos} {hp : Heap} {ge : Array GenState} {dr : Drawn} {tk : Nat} {os : OsState} {M : Model} {Q : Value → Shared → Prop} (h : Q (.int i tk) ⟨hp, ge, dr, tk + 1, os⟩) : wpAny M A (eval (.Constant (.int i) k pos) env) Q E ⟨hp, ge, dr, tk, os⟩ := wpAny_Constant_int h
theorem cStr {env : Env} {x : Str} {k : Nat} {pos : Pos} {hp : Heap} {ge : Array GenState} {dr : Drawn} {tk : Nat} {os : OsState} {M : Model} {Q : Value → Shared → Prop} (h : Q (.str x tk) ⟨hp, ge, dr, tk + 1, os⟩) : wpAny M A (eval (.Constant (.str x) k pos) env) Q E ⟨hp, ge, dr, tk, os⟩ := wpAny_Constant_str h
theorem asg_pair {kt} {xi xv : Str} {pi pv pt : Pos} {x1 : Nat} {T : Addr} {v1 v2 : Value} {hp : Heap} {ge : Array GenState} {dr : Drawn} {tk : Nat} {os : OsState} {Q : Unit → Shared → Prop} (hh : A.handled = none) (S : Sc cs kt) (F : Fl g L hp l) (N : News g L hp news)
    (hT : hp.IsTuple T #[v1, v2]) (hi : At xi NameKind.local kt) (hv : At xv NameKind.local kt) (p1 : PutD xi v1 l l1) (p2 : PutD xv v2 l1 l2)
    (h : ∀ h' tk, Fl g L h' l2 → News g L h' news → Keep [L] hp h' → Q () ⟨h', ge, dr, tk, os⟩) :
    wpAny (model prog w) A (assign (.Tuple [.Name xi pi, .Name xv pv] x1 pt) (envX cn cs L a ccd cl) (.ref T)) Q E ⟨hp, ge, dr, tk, os⟩ := by
  refine wpAny_assign_Tuple hh hT rfl rfl fun h₃ hx₃ => ?_
  have k₃ : Sub hp h₃ := ext_sub hx₃
  show wpAny _ A (do holding [v2] (assign (.Name xi pi) (envX cn cs L a ccd cl) v1); do holding [] (assign (.Name xv pv) (envX cn cs L a ccd cl) v2); pure ()) _ _ ⟨h₃, ge, dr, tk, os⟩
  refine wpAny_bind (wpAny_holding (wpAny_assign_Name (stK S (F.ext k₃) (News.ext N k₃) hi p1 fun h₄ F₄ N₄ k₄ => ?_)))
  refine wpAny_bind (wpAny_holding (wpAny_assign_Name (stK S F₄ N₄ hv p2 fun h₅ F₅ N₅ k₅ => wpAny_pure ?_)))
  exact h h₅ _ F₅ N₅ fun b o n e => k₅ b o n (k₄ b o n (k₃ b o e))
end

section
variable {M : Model} {A : Around} {R : GenEnd} {Y : Protocol} {n : Nat} {s₀ : Shared} {c : Code} {fs : List Frame} {s : Shared} {env : Env}
  {K : Flow → Sem Fin} {H : Value → Sem Fin} {gd : Bool → Bool} {lv : List Value → List Value}
noncomputable def ifK (K : Flow → Sem Fin) (H : Value → Sem Fin) (gd : Bool → Bool) (lv : List Value → List Value) (env : Env) (rest : List Stmt) : Flow → Sem Fin := fun f => match f with | .next => (execs rest env).wrap K H gd lv | f => K f
theorem sg_if {test : Expr} {b o rest : List Stmt} {pos : Pos}
    (h : wpAny M (A.over c fs) (isTrue test env (eval test env)) (fun t s' => if t = true then Seg M A R Y n s₀ c ((execs b env).wrap (ifK K H gd lv env rest) H gd lv) fs s' else Seg M A R Y n s₀ c ((execs o env).wrap (ifK K H gd lv env rest) H gd lv) fs s') NoE s) :
    Seg M A R Y n s₀ c ((execs (.If test b o pos :: rest) env).wrap K H gd lv) fs s := by
  refine seg_execs_cons ?_
  rw [exec_If]
  refine seg_bind_wrap (wpAny_standAt ?_)
  refine seg_bind_wrap (toE (wpAny_mono h (fun t s' h' => ?_) fun _ _ x => x.elim))
  cases t
  · rw [if_neg Bool.false_ne_true] at h' ⊢; exact h'
  · rw [if_pos rfl] at h' ⊢; exact h'
theorem seg_ind {code : Code} {fs : List Frame} (I : Nat → Nat → Shared → Shared → Prop)
    (step : ∀ k n s₀ s, (∀ k' n' s₀' s', k' < k → I k' n' s₀' s' → Seg M A R Y n' s₀' code (M.den code) fs s') → I k n s₀ s → Seg M A R Y n s₀ code (M.den code) fs s) :
    ∀ k n s₀ s, I k n s₀ s → Seg M A R Y n s₀ code (M.den code) fs s := by
  intro k
  induction k using Nat.strongRecOn with
  | ind k ih => exact fun n s₀ s hI => step k n s₀ s (fun k' n' s₀' s' hk hI' => ih k' hk n' s₀' s' hI') hI
theorem sg_func {prog : Program} {w : World} {body b : List Stmt} (hb : body = b)
    (h : Seg (model prog w) A R Y n s₀ (.func body env) ((execs b env).wrap (fun f => .pure (.done (.ret (match f with | .ret v => v | _ => .none)))) (fun e => (leaving env e).wrap (fun _ => .raise e) .raise id id) id id) fs s) :
    Seg (model prog w) A R Y n s₀ (.func body env) ((model prog w).den (.func body env)) fs s := by subst hb; exact seg_func h
theorem sg_yield {e : Expr} {ypos pos : Pos} {rest : List Stmt} (hfs : splitAtGen fs = none) (hgd : gd false = false) (hfg : fs.any Frame.guarded = false)
    (h : wpAny M (A.over c fs) (eval e env) (fun v s' => ∀ kap : Resume → Shared → Prop, (∀ s'', Seg M A R Y n s'' c ((execs rest env).wrap K H gd lv) fs s'' → kap (.send .none) s'') → Y n s₀ v s' kap) NoE s)
    (hco : env.scope.isCoroutine = false) (hi : interactive env = false) :
    Seg M A R Y (n + 1) s₀ c ((execs (.Expr (.Yield (some e) ypos) pos :: rest) env).wrap K H gd lv) fs s := by
  refine seg_execs_cons (seg_Expr_Yield hfs hgd hfg (toE (wpAny_mono h (fun v s' h' kap hk => h' kap fun s'' z => hk .none s'' z) fun _ _ x => x.elim)) hco hi)
end

noncomputable abbrev kt4 : List (Str × NameKind) := [(Str.ofString "addr", .local), (Str.ofString "pos", .local), (Str.ofString "escape", .local), (Str.ofString "ch", .local), (Str.ofString "enumerate", .globalImplicit)]
theorem sc4 : Sc (scopeOf (stAt 4)) kt4 := Sc.of (by kernel_rfl) (by decide +kernel)
theorem co4 : (scopeOf (stAt 4)).isCoroutine = false := by kernel_rfl
noncomputable abbrev env4 (L : Addr) : Env := envX (Str.ofString "_iter_escaped_chars") (scopeOf (stAt 4)) L 35 (.ref 34) []
theorem bs_is : Str.ofString "\\" = ⟨#[92]⟩ := by decide +kernel
theorem str_app (a b : List Nat) : (⟨a.toArray⟩ : Str) ++ (⟨b.toArray⟩ : Str) = ⟨(a ++ b).toArray⟩ := by
  show Str.append _ _ = _
  simp [Str.append]
theorem units_true (p : Nat) (c : Nat) (r : List Nat) : units p true (c :: r) = (p, [92, c]) :: units (p + 1) false r := rfl
theorem units_bs (p : Nat) (r : List Nat) : units p false (92 :: r) = units (p + 1) true r := by simp [units]
theorem units_other (p : Nat) {c : Nat} (r : List Nat) (h : c ≠ 92) : units p false (c :: r) = (p, [c]) :: units (p + 1) false r := by simp [units, h]
theorem units_at {U pre : List (Nat × List Nat)} {u : Nat × List Nat} {r : List (Nat × List Nat)} (h : U = pre ++ u :: r) : U[U.length - 1 - r.length]? = some u := by
  subst h
  have : (pre ++ u :: r).length - 1 - r.length = pre.length := by simp
  rw [this, List.getElem?_append_right (Nat.le_refl _), Nat.sub_self]; rfl

section
variable {prog : Program} {w : World} {A : Around}
noncomputable def eSt (e it : Addr) (x : Str) (t : Tok) (i : Nat) (h : Heap) : Prop := (∃ old, IsEnum h e it i old) ∧ h.IsStrIter it "str_ascii_iterator" x t i
theorem eSt.keep {e it n₀ : Addr} {x : Str} {t : Tok} {i : Nat} {h h' : Heap} (he : n₀ < e) (hi : n₀ < it) (k : KeepI n₀ h h') (S : eSt e it x t i h) : eSt e it x t i h' := by
  obtain ⟨⟨old, a⟩, o, ho, hc, hd⟩ := S
  exact ⟨⟨old, k _ _ a (.inr ⟨he, rfl, fun _ _ e => nomatch e⟩)⟩, o, k _ _ ho (.inr ⟨hi, by rw [hc]; decide, fun _ _ e => by rw [hd] at e; cases e⟩), hc, hd⟩
theorem eSt.off {e it n₀ b : Addr} {x : Str} {t : Tok} {i : Nat} {h : Heap} {o : Obj} (he : n₀ < e) (hi : n₀ < it) (S : eSt e it x t i h) (hb : h.get? b = some o) (n : ¬ Ity n₀ b o) : b ∉ [e, it] := by
  obtain ⟨⟨old, a⟩, oi, ho, hc, hd⟩ := S
  intro hm
  rcases List.mem_cons.mp hm with rfl | hm
  · rw [a] at hb; cases hb; exact n (.inr ⟨he, rfl, fun _ _ e => nomatch e⟩)
  · obtain rfl := List.mem_singleton.mp hm
    rw [ho] at hb; cases hb; exact n (.inr ⟨hi, by rw [hc]; decide, fun _ _ e => by rw [hd] at e; cases e⟩)
theorem Fl.keepI {B : Heap} {n₀ : Addr} {h h' : Heap} {l : List (Str × Value)} (k : KeepI n₀ h h') (hs : Sub B h') (F : Fl B n₀ h l) : Fl B n₀ h' l := by
  obtain ⟨m, ⟨⟨o, es, ep, ho, r⟩, kk, ab⟩, K⟩ := F
  exact ⟨m, ⟨⟨o, es, ep, k _ _ ho (.inl rfl), r⟩, hs, ab⟩, K⟩
end

theorem Fl.lt {g h : Heap} {L : Addr} {l : List (Str × Value)} (F : Fl g L h l) : L < h.objs.size := let ⟨_, F, _⟩ := F; F.ns.lt
theorem Fl.but {B : Heap} {n₀ : Addr} {h h' : Heap} {l : List (Str × Value)} (F : Fl B n₀ h l) (k : ∀ o, h.get? n₀ = some o → h'.get? n₀ = some o) (hs : Sub B h') : Fl B n₀ h' l := by
  obtain ⟨m, ⟨⟨o, es, ep, ho, r⟩, kk, ab⟩, K⟩ := F
  exact ⟨m, ⟨⟨o, es, ep, k _ ho, r⟩, hs, ab⟩, K⟩
theorem eSt.but {e it : Addr} {x : Str} {t : Tok} {i : Nat} {h h' : Heap} (S : eSt e it x t i h) (k : ∀ b ∈ [e, it], ∀ o, h.get? b = some o → h'.get? b = some o) : eSt e it x t i h' := by
  obtain ⟨⟨old, a⟩, o, ho, hc, hd⟩ := S
  exact ⟨⟨old, k e (by simp) _ a⟩, o, k it (by simp) _ ho, hc, hd⟩
theorem Fl.first3 {g h : Heap} {L : Addr} {a b c : Str × Value} {r : List (Str × Value)} (F : Fl g L h (a :: b :: c :: r)) : Fl g L h [a, b, c] :=
  F.sub fun p m => by
    simp only [List.mem_cons, List.not_mem_nil, or_false] at m ⊢
    rcases m with h | h | h <;> simp [h]
section
variable {M : Model} {A : Around} {R : GenEnd} {Y : Protocol} {n : Nat} {s₀ : Shared} {c : Code} {fs : List Frame} {s : Shared} {env env' : Env}
  {K : Flow → Sem Fin} {H : Value → Sem Fin} {gd : Bool → Bool} {lv : List Value → List Value}
theorem seg_ifnil (h : Seg M A R Y n s₀ c (K .next) fs s) : Seg M A R Y n s₀ c (ifK K H gd lv env [] .next) fs s := h
theorem seg_turn {t : Expr} {it : Value} {b e : List Stmt} (h : Seg M A R Y n s₀ (.forLoop t it b e env) (M.den (.forLoop t it b e env)) fs s) : Seg M A R Y n s₀ (.forLoop t it b e env) (loopK (.forLoop t it b e env) .next) fs s := seg_again rfl h
end
theorem tup_but {h h' : Heap} {T : Addr} {vs : Array Value} (x : h.IsTuple T vs) (k : ∀ o, h.get? T = some o → h'.get? T = some o) : h'.IsTuple T vs := let ⟨o, ho, r⟩ := x; ⟨o, k o ho, r⟩
section
variable {prog : Program} {w : World} {A : Around} {K : Frag}
theorem esc_seg (hK : KOk K) (hh : A.handled = none) {B : Heap} (C : Cx K B) {x : Str} {t : Tok} (hx : x.cps.all (· < 128) = true) {n₀ : Addr} {s : Shared} (F : Fl B n₀ s.heap [(Str.ofString "addr", .str x t)]) :
    Seg (model prog w) A (RE n₀) (YE n₀ B (units 0 false x.cps.toList)) (units 0 false x.cps.toList).length s (.func (bodyOf (stAt 4)) (env4 n₀)) ((model prog w).den (.func (bodyOf (stAt 4)) (env4 n₀))) [] s := by
  obtain ⟨hp, ge, dr, tk, os⟩ := s
  have S := sc4
  have N : News B n₀ hp [] := fun _ m => nomatch m
  generalize hU : units 0 false x.cps.toList = U
  refine sg_func (by conv => lhs; whnf) ?_
  refine sg_stmt (wpAny_Assign_Name (cInt (stK S F N (by (with_reducible (repeat (first | exact At.hd | apply At.tl)))) (by (repeat (first | (with_reducible exact PutD.new) | ((with_reducible apply PutD.here); (repeat (first | exact Apart.nil | refine Apart.cons (by decide +kernel) ?_))) | ((with_reducible apply PutD.next); (decide +kernel))))) fun h₁ F₁ N₁ k₁ => ⟨rfl, ?_⟩)))
  refine sg_stmt (wpAny_Assign_Name (wpAny_Constant_bool (stK S F₁ N₁ (by (with_reducible (repeat (first | exact At.hd | apply At.tl)))) (by (repeat (first | (with_reducible exact PutD.new) | ((with_reducible apply PutD.here); (repeat (first | exact Apart.nil | refine Apart.cons (by decide +kernel) ?_))) | ((with_reducible apply PutD.next); (decide +kernel))))) fun h₂ F₂ N₂ k₂ => ⟨rfl, ?_⟩)))
  have hlt := F₂.lt
  refine sg_for (Call_ (nmB hK S F₂ C (by (with_reducible (repeat (first | exact At.hd | apply At.tl)))) (by (with_reducible (repeat (first | exact At.hd | apply At.tl)))) (by (with_reducible (repeat (first | exact At.hd | apply At.tl)))) (callWith_type1 (args_cons (nmL S F₂ (by (with_reducible (repeat (first | exact At.hd | apply At.tl)))) (by (with_reducible (repeat (first | exact At.hd | apply At.tl)))) (args_nil
    (call_enumerate_str fun h₃ he hit hsz hk₃ => wpAny_pyIter_enum he fun p => ?_)))))))
  dsimp only at he hit hsz hk₃ ⊢
  have ne1 : n₀ < h₂.objs.size + 1 := Nat.lt_succ_of_lt hlt
  have hit' : h₃.IsStrIter h₂.objs.size "str_ascii_iterator" x t 0 := by have := hit; unfold strIterType at this; rw [hx] at this; exact this
  have F₃ := F₂.ext hk₃
  have hei : h₂.objs.size + 1 ≠ h₂.objs.size := Nat.succ_ne_self _
  have kAll : KeepG n₀ hp h₃ := fun b o e n => hk₃ b o (k₂ b o (fun m => n (.inl (List.mem_singleton.mp m))) (k₁ b o (fun m => n (.inl (List.mem_singleton.mp m))) e))
  generalize h₂.objs.size + 1 = e at *
  generalize h₂.objs.size = it at *
  have W := fun (A' : Around) (h : A'.handled = none) => WalksT.enumerateD (prog := prog) (w := w) (Draws.strAscii (A := A'.in1) h it x t) e hei (fun m => hei (List.mem_singleton.mp m)) (List.mem_singleton.mpr rfl)
  refine seg_ind (fun k n s₀ s' => ∃ i esc pv tp pre, k = x.cps.size - i ∧ i ≤ x.cps.size ∧ n = (units i esc (x.cps.toList.drop i)).length ∧ U = pre ++ units i esc (x.cps.toList.drop i) ∧ eSt e it x t i s'.heap ∧
    Fl B n₀ s'.heap [(Str.ofString "addr", .str x t), (Str.ofString "pos", .int pv tp), (Str.ofString "escape", .bool esc)] ∧ (esc = true → pv = (((i - 1 : Nat)) : Int)) ∧ GenRel n₀ s₀ s') ?_ _ _ _ _
    ⟨0, false, _, _, [], rfl, Nat.zero_le _, by rw [← hU]; rfl, by rw [← hU]; rfl, ⟨⟨_, he⟩, hit'⟩, F₃, (fun h => nomatch h), ⟨_, _, rfl, kAll⟩⟩
  clear kAll he hit hit' hk₃ k₁ k₂ F₁ F₂ F₃ N₁ N₂ F N hsz
  rintro k n s₀ ⟨hp', ge', dr', tk', os'⟩ ih ⟨i, esc, pv, tp, pre, rfl, hi, hnn, hU', hS, F, hpv, G⟩
  have N : News B n₀ hp' [] := fun _ m => nomatch m
  have hn : n₀ ∉ [e, it] := fun m => by
    rcases List.mem_cons.mp m with q | q
    · exact Nat.ne_of_lt ne1 q
    · exact Nat.ne_of_lt hlt (List.mem_singleton.mp q)
  refine sg_loop ?_
  by_cases hlt2 : i < x.cps.size
  · refine (W _ (by exact hh)).item i _ _ _ hlt2 hS fun T vals h₁ tk₁ hPt hle hT hMid hk₁ => ?_
    obtain ⟨ti, xv, ⟨cc, tu, hcc, rfl⟩, rfl⟩ := hPt
    have hTn := (W A hh).apart _ _ _ hMid
    refine (W _ (by exact hh)).go _ _ _ i T _ _ _ hMid fun h₂ hS₂ hk₂ => ?_
    have hT₂ := tup_but hT (hk₂ T · hTn)
    dsimp only at hT₂ hk₁ hk₂ ⊢
    have sB₂ : Sub B h₂ := fun b o e' => by
      have eb := F.keep b o e'
      have nb : ¬ Ity n₀ b o := fun q => by
        have lb : b < B.objs.size := Heap.lt_size e'
        have la : B.objs.size ≤ n₀ := let ⟨_, F', _⟩ := F; F'.above
        rcases q with rfl | ⟨q, _⟩
        · exact Nat.lt_irrefl _ (Nat.lt_of_lt_of_le lb la)
        · exact Nat.lt_irrefl _ (Nat.lt_trans q (Nat.lt_of_lt_of_le lb la))
      have nb' := hS.off ne1 hlt eb nb
      exact hk₂ b o nb' (hk₁ b o nb' eb)
    have F₂ := F.but (fun o e' => hk₂ _ _ hn (hk₁ _ _ hn e')) sB₂
    have N₂ : News B n₀ h₂ [] := fun _ m => nomatch m
    refine asg_pair (by exact hh) S F₂ N₂ hT₂ (by (with_reducible (repeat (first | exact At.hd | apply At.tl)))) (by (with_reducible (repeat (first | exact At.hd | apply At.tl)))) (by (repeat (first | (with_reducible exact PutD.new) | ((with_reducible apply PutD.here); (repeat (first | exact Apart.nil | refine Apart.cons (by decide +kernel) ?_))) | ((with_reducible apply PutD.next); (decide +kernel))))) (by (repeat (first | (with_reducible exact PutD.new) | ((with_reducible apply PutD.here); (repeat (first | exact Apart.nil | refine Apart.cons (by decide +kernel) ?_))) | ((with_reducible apply PutD.next); (decide +kernel))))) fun h₃ tk₃ F₃ N₃ k₃ => ?_
    have hS₃ : eSt e it x t (i + 1) h₃ := eSt.but hS₂ fun b hb o e' => k₃ b o (fun m => hn ((List.mem_singleton.mp m) ▸ hb)) e'
    have kG : KeepG n₀ hp' h₃ := fun b o e' nb => by
      have nb' := hS.off ne1 hlt e' nb
      exact k₃ b o (fun m => nb (.inl (List.mem_singleton.mp m))) (hk₂ b o nb' (hk₁ b o nb' e'))
    clear hS hS₂ hT hT₂ hMid hTn hk₁ hk₂ F₂ N₂ F N k₃ sB₂
    refine sg_if (wpAny_isTrue_value (nmL S F₃ (by (with_reducible (repeat (first | exact At.hd | apply At.tl)))) (by (with_reducible (repeat (first | exact At.hd | apply At.tl)))) (wpAny_truthy_bool ?_)))
    have hdrop : x.cps.toList.drop i = cc :: x.cps.toList.drop (i + 1) := by
      have hi' : i < x.cps.toList.length := by simpa using hlt2
      rw [List.drop_eq_getElem_cons hi']
      congr 1
      rw [Array.getElem_toList, ← Option.some.injEq, ← hcc, Array.getElem?_eq_getElem hlt2]
    have hk' : x.cps.size - (i + 1) < x.cps.size - i := by omega
    rw [hdrop] at hU' hnn
    cases esc with
    | true =>
      refine iteT rfl ?_
      obtain rfl : n = _ + 1 := hnn
      refine sg_yield rfl rfl rfl (wpAny_Tuple (args_cons (nmL S F₃ (by (with_reducible (repeat (first | exact At.hd | apply At.tl)))) (by (with_reducible (repeat (first | exact At.hd | apply At.tl)))) (args_cons (wpAny_BinOp (cStr (nmL S F₃ (by (with_reducible (repeat (first | exact At.hd | apply At.tl)))) (by (with_reducible (repeat (first | exact At.hd | apply At.tl)))) (add_str (fun t' tk' => args_nil
        ⟨(by show 2 ≤ sizeLine; decide), fun kap hk => ⟨⟨_, i, [92, cc], _, _, rfl, Heap.get?_push_size _ rfl, units_at hU'⟩, G.step (kG.trans (KeepG.of fun _ _ e' => Heap.get?_push_of_some _ e')), fun s'' ki sb => hk s'' ?_⟩⟩))))))))) co4 rfl
      obtain ⟨hq, gq, dq, tq, oq⟩ := s''
      dsimp only at ki sb
      have sbp : Sub h₃ (h₃.push { cls := .type "tuple", data := .seq [.int (i : Int) ti, .str (Str.ofString "\\" ++ ⟨#[cc]⟩) t'].toArray }) := fun _ _ e' => Heap.get?_push_of_some _ e'
      have F₄ := (F₃.ext sbp).keepI ki sb
      have hS₄ := (hS₃.but (fun b _ o e' => sbp b o e')).keep ne1 hlt ki
      have N₄ : News B n₀ hq [] := fun _ m => nomatch m
      refine sg_stmt (wpAny_Assign_Name (wpAny_Constant_bool (stK S F₄ N₄ (by (with_reducible (repeat (first | exact At.hd | apply At.tl)))) (by (repeat (first | (with_reducible exact PutD.new) | ((with_reducible apply PutD.here); (repeat (first | exact Apart.nil | refine Apart.cons (by decide +kernel) ?_))) | ((with_reducible apply PutD.next); (decide +kernel))))) fun h₅ F₅ N₅ k₅ => ⟨rfl, ?_⟩)))
      refine seg_execs_nil (seg_ifnil (seg_turn (ih _ _ _ _ hk' ⟨i + 1, false, _, _, pre ++ [(i, [92, cc])], rfl, hlt2, rfl, by rw [hU', List.append_assoc]; rfl, ?_, F₅.first3, (fun h => nomatch h), ⟨_, _, rfl, ?_⟩⟩)))
      · exact hS₄.but fun b hb o e' => k₅ b o (fun m => hn ((List.mem_singleton.mp m) ▸ hb)) e'
      · exact KeepG.ofKeep k₅
    | false =>
      refine iteF rfl ?_
      refine sg_if (wpAny_isTrue_Compare1 (nmL S F₃ (by (with_reducible (repeat (first | exact At.hd | apply At.tl)))) (by (with_reducible (repeat (first | exact At.hd | apply At.tl)))) (cStr (eq_str (wpAny_truthy_bool ?_)))))
      by_cases hc : cc = 92
      · subst hc
        rw [units_bs] at hU' hnn
        refine iteT (by decide +kernel) ?_
        refine sg_stmt (wpAny_Assign_Name (wpAny_Constant_bool (stK S F₃ N₃ (by (with_reducible (repeat (first | exact At.hd | apply At.tl)))) (by (repeat (first | (with_reducible exact PutD.new) | ((with_reducible apply PutD.here); (repeat (first | exact Apart.nil | refine Apart.cons (by decide +kernel) ?_))) | ((with_reducible apply PutD.next); (decide +kernel))))) fun h₅ F₅ N₅ k₅ => ⟨rfl, ?_⟩)))
        refine seg_execs_nil (seg_ifnil (seg_ifnil (seg_turn (ih _ _ _ _ hk' ⟨i + 1, true, _, _, pre, rfl, hlt2, hnn, hU', ?_, F₅.first3, fun _ => rfl, ?_⟩))))
        · exact hS₃.but fun b hb o e' => k₅ b o (fun m => hn ((List.mem_singleton.mp m) ▸ hb)) e'
        · exact G.step (kG.trans (KeepG.ofKeep k₅))
      · rw [units_other _ _ hc] at hU' hnn
        refine iteF (by show (⟨#[cc]⟩ == (⟨#[92]⟩ : Str)) = false; simp [hc]) ?_
        obtain rfl : n = _ + 1 := hnn
        refine sg_yield rfl rfl rfl (wpAny_Tuple (args_cons (nmL S F₃ (by (with_reducible (repeat (first | exact At.hd | apply At.tl)))) (by (with_reducible (repeat (first | exact At.hd | apply At.tl)))) (args_cons (nmL S F₃ (by (with_reducible (repeat (first | exact At.hd | apply At.tl)))) (by (with_reducible (repeat (first | exact At.hd | apply At.tl)))) (args_nil
          ⟨(by show 2 ≤ sizeLine; decide), fun kap hk => ⟨⟨_, i, [cc], _, _, rfl, Heap.get?_push_size _ rfl, units_at hU'⟩, G.step (kG.trans (KeepG.of fun _ _ e' => Heap.get?_push_of_some _ e')), fun s'' ki sb => hk s'' ?_⟩⟩)))))) co4 rfl
        obtain ⟨hq, gq, dq, tq, oq⟩ := s''
        dsimp only at ki sb
        have sbp : Sub h₃ (h₃.push { cls := .type "tuple", data := .seq [.int (i : Int) ti, .str ⟨#[cc]⟩ tu].toArray }) := fun _ _ e' => Heap.get?_push_of_some _ e'
        have F₄ := (F₃.ext sbp).keepI ki sb
        have hS₄ := (hS₃.but (fun b _ o e' => sbp b o e')).keep ne1 hlt ki
        exact seg_execs_nil (seg_ifnil (seg_ifnil (seg_turn (ih _ _ _ _ hk' ⟨i + 1, false, _, _, pre ++ [(i, [cc])], rfl, hlt2, rfl, by rw [hU', List.append_assoc]; rfl, hS₄, F₄.first3, (fun h => nomatch h), GenRel.refl⟩))))
  · obtain rfl : i = x.cps.size := Nat.le_antisymm hi (Nat.le_of_not_lt hlt2)
    have hdrop : x.cps.toList.drop x.cps.size = [] := by simp
    rw [hdrop] at hU' hnn
    refine (W _ (by exact hh)).done _ _ _ hS fun h₁ tk₁ hk₁ => ?_
    dsimp only at hk₁ ⊢
    have sB₁ : Sub B h₁ := fun b o e' => by
      have eb := F.keep b o e'
      have nb : ¬ Ity n₀ b o := fun q => by
        have lb : b < B.objs.size := Heap.lt_size e'
        have la : B.objs.size ≤ n₀ := let ⟨_, F', _⟩ := F; F'.above
        rcases q with rfl | ⟨q, _⟩
        · exact Nat.lt_irrefl _ (Nat.lt_of_lt_of_le lb la)
        · exact Nat.lt_irrefl _ (Nat.lt_trans q (Nat.lt_of_lt_of_le lb la))
      exact hk₁ b o (hS.off ne1 hlt eb nb) eb
    have F₁ := F.but (fun o e' => hk₁ _ _ hn e') sB₁
    have kG : KeepG n₀ hp' h₁ := fun b o e' nb => hk₁ b o (hS.off ne1 hlt e' nb) e'
    have F' := F₁.sub (l' := [(Str.ofString "pos", .int pv tp), (Str.ofString "escape", .bool esc)]) (fun p m => List.mem_cons_of_mem _ m)
    clear hS hk₁ F N F₁ sB₁
    refine sg_if (wpAny_isTrue_value (nmL S F' (by (with_reducible (repeat (first | exact At.hd | apply At.tl)))) (by (with_reducible (repeat (first | exact At.hd | apply At.tl)))) (wpAny_truthy_bool ?_)))
    cases esc with
    | true =>
      refine iteT rfl ?_
      obtain rfl : n = 0 + 1 := hnn
      obtain rfl := hpv rfl
      refine sg_yield rfl rfl rfl (wpAny_Tuple (args_cons (nmL S F' (by (with_reducible (repeat (first | exact At.hd | apply At.tl)))) (by (with_reducible (repeat (first | exact At.hd | apply At.tl)))) (args_cons (cStr (args_nil
          ⟨(by show 2 ≤ sizeLine; decide), fun kap hk => ⟨⟨_, x.cps.size - 1, [92], _, _, rfl, Heap.get?_push_size _ rfl, units_at hU'⟩, G.step (kG.trans (KeepG.of fun _ _ e' => Heap.get?_push_of_some _ e')), fun s'' ki sb => hk s'' ?_⟩⟩)))))) co4 rfl
      exact seg_execs_nil (seg_ifnil (seg_end (.ok (.ret .none)) ⟨rfl, rfl, GenRel.refl⟩))
    | false =>
      refine iteF rfl ?_
      obtain rfl : n = 0 := hnn
      exact seg_execs_nil (seg_ifnil (seg_end (.ok (.ret .none)) ⟨rfl, rfl, G.step kG⟩))
end

-- a call of the generator, and its turns
theorem bare_set {s : Shared} {g : Nat} {x : GenState} (h : AllBare s.gens) (hx : x.bare = true) : AllBare (s.setGen g x).gens := by
  intro y hy
  obtain ⟨i, hi, rfl⟩ := Array.mem_iff_getElem.mp hy
  simp only [Shared.setGen] at hi ⊢
  rw [Array.getElem_setIfInBounds]
  · split
    · exact hx
    · exact h _ (Array.getElem_mem _)
  · simpa [Shared.setGen] using hi
section
variable {prog : Program} {w : World} {A : Around} {E : Value → Shared → Prop} {s : Shared}
theorem pyNext_fgenQ {a : Addr} {g n : Nat} {gs : GenState} {P : Nat → Shared → Shared → Prop} {Y : Protocol} {Q : Option Value → Shared → Prop} (hh : A.handled = none)
    (hl : s.heap.NoLimit) (hroom : A.depth < recursionLimit)
    (hg : s.heap.IsGen a g) (hgs : s.gens[g]? = some gs)
    (hgo : gs.Goes (model prog w) A.in1 (fun n s₀ r s₁ => r = .ok (.ret .none) ∧ P n s₀ s₁) Y n (.send .none) (s.setGen g .running))
    (hY : ∀ v s₁ gs', gs'.bare = true → Y (n - 1) (s.setGen g .running) v s₁ (fun r' s'' => match n with
        | 0 => False
        | m + 1 => gs'.Goes (model prog w) A.in1 (fun n s₀ r s₁ => r = .ok (.ret .none) ∧ P n s₀ s₁) Y m r' s'') → Q (some v) (s₁.setGen g gs'))
    (hP : ∀ s₁, P n (s.setGen g .running) s₁ → ∀ h', (∀ b o, s₁.heap.get? b = some o → h'.get? b = some o) → Q none { s₁.setGen g .finished with heap := h' }) :
    wpAny (model prog w) A (pyNext (.ref a)) Q E s := by
  unfold pyNext
  refine wpAny_bind (wpAny_attempt (wpAny_callSpecial?_slot (name := Str.ofString "__next__") hg.typeIs slot_gen_next
    (wpAny_call_entry slot_gen_next hg.typeIs entry_gen_next ?_ (args_gen_next _))))
  show wpAny _ _ (Builtin.Generator.genWake (.ref a) (.send .none)) _ _ s
  unfold Builtin.Generator.genWake
  refine wpAny_bind (wpAny_holding (wpAny_genNumber hg (wpAny_bind (wpAny_genState hgs ?_))))
  cases gs with
  | running => exact hgo.elim
  | finished => exact hgo.elim
  | _ =>
    refine wpAny_bind (wpAny_roomToWake hl hroom ?_)
    show wpAny _ _ (.resume g (.send .none) [] _) _ _ s
    refine wpAny_resumeQ hgs hgo (fun x s₁ hx => ?_) (fun v s₁ gs' hb hv => ?_)
    · obtain ⟨rfl, hp⟩ := hx
      show wpAny _ _ (newExc (.type "StopIteration") [] >>= _) _ _ _
      refine wpAny_bind ?_
      simp only [newExc, newTuple]
      refine wpAny_bind (wpAny_newObj_type ?_ (by size_fits))
      refine wpAny_bind (m := firstArgMember _ _) (wpAny_of_eq (a := Value.none) (by first | rfl | (simp only [firstArgMember]; rfl)) ?_)
      refine wpAny_newObj_type ?_ (by size_fits)
      simp only [raiseNew]
      refine wpAny_bind (wpAny_bind (wpAny_handled ?_))
      rw [show A.in1.handled = none from hh]
      refine wpAny_throw ?_
      refine wpAny_bind (wpAny_isInstance (T := "StopIteration") (b := true) ⟨_, Heap.get?_push_size _ rfl, rfl⟩ isSubtype_stop ?_)
      exact wpAny_pure (hP s₁ hp _ fun b o hb => Heap.get?_push_of_some _ (Heap.get?_push_of_some _ hb))
    · exact wpAny_pure ⟨v, rfl, wpAny_pure (hY v s₁ gs' hb hv)⟩

theorem base_off {B : Heap} {n₀ b : Addr} {o : Obj} (bd : B.objs.size ≤ n₀) (e : B.get? b = some o) : ∀ o', ¬ Ity n₀ b o' := fun o' q => by
  have lb : b < B.objs.size := Heap.lt_size e
  rcases q with rfl | ⟨q, _⟩
  · exact Nat.lt_irrefl _ (Nat.lt_of_lt_of_le lb bd)
  · exact Nat.lt_irrefl _ (Nat.lt_trans q (Nat.lt_of_lt_of_le lb bd))
theorem cell4 : ((scopeOf (stAt 4)).names.all fun x => decide (x.2 ≠ .cell)) = true := by decide +kernel
structure EscAt (prog : Program) (w : World) (A : Around) (a : Addr) (g : Nat) (n₀ : Addr) (B : Heap) (U : List (Nat × List Nat)) (j : Nat) (h : Heap) (ge : Array GenState) : Prop where
  gen : h.IsGen a g
  st : ∃ gs, ge[g]? = some gs ∧ ∀ s'' : Shared, KeepI n₀ h s''.heap → Sub B s''.heap → gs.Goes (model prog w) A.in1 (RE n₀) (YE n₀ B U) (U.length - j) (.send .none) s''
  lt : n₀ < a
  bd : B.objs.size ≤ n₀
theorem EscAt.keep {a g n₀ B U j h ge} (X : EscAt prog w A a g n₀ B U j h ge) {h' : Heap} (k : KeepI n₀ h h') (ka : ∀ o, h.get? a = some o → h'.get? a = some o) : EscAt prog w A a g n₀ B U j h' ge := by
  obtain ⟨⟨og, nm, qn, hog, rg⟩, ⟨gs, hgs, hgo⟩, hlt, bd⟩ := X
  exact ⟨⟨og, nm, qn, ka _ hog, rg⟩, ⟨gs, hgs, fun s'' k' b => hgo s'' (fun b' o' e i => k' b' o' (k b' o' e i) i) b⟩, hlt, bd⟩
theorem esc_next {a n₀ : Addr} {g j : Nat} {B : Heap} {U : List (Nat × List Nat)} {hp : Heap} {ge : Array GenState} {dr : Drawn} {tk : Nat} {os : OsState} {Q : Option Value → Shared → Prop} (hh : A.handled = none)
    (hl : hp.NoLimit) (hroom : A.depth < recursionLimit) (X : EscAt prog w A a g n₀ B U j hp ge) (hB : Sub B hp) (hb : AllBare ge) (hj : j ≤ U.length)
    (hY : ∀ T u p tp tu h' ge' tk', j < U.length → U[j]? = some (p, u) → KeepG n₀ hp h' → h'.get? T = some (pairObj (p : Nat) tp u tu) → AllBare ge' → EscAt prog w A a g n₀ B U (j + 1) h' ge' → Q (some (.ref T)) ⟨h', ge', dr, tk', os⟩)
    (hN : j = U.length → ∀ h' ge' tk', KeepG n₀ hp h' → AllBare ge' → Q none ⟨h', ge', dr, tk', os⟩) :
    wpAny (model prog w) A (pyNext (.ref a)) Q E ⟨hp, ge, dr, tk, os⟩ := by
  obtain ⟨hgen, ⟨gs, hgs, hgo⟩, hlt, bd⟩ := X
  have na : ∀ (h : Heap), h.IsGen a g → ∃ o, h.get? a = some o ∧ ¬ Ity n₀ a o := fun h ⟨o, _, _, ho, hc, _⟩ => ⟨o, ho, fun q => by
    rcases q with rfl | ⟨_, q⟩
    · exact Nat.lt_irrefl _ hlt
    · rw [hc] at q; exact absurd q.1 (by decide)⟩
  refine pyNext_fgenQ (P := fun n s₀ s₁ => n = 0 ∧ GenRel n₀ s₀ s₁) hh hl hroom hgen hgs (hgo _ (fun _ _ e _ => e) hB) (fun v s₁ gs' hbare hy => ?_) (fun s₁ hr h' hk => ?_)
  · obtain ⟨⟨T, p, u, tp, tu, rfl, hT, hu⟩, ⟨h₁, tk₁, rfl, hk₁⟩, hkap⟩ := hy
    dsimp only [Shared.setGen] at hT hk₁ hkap
    have sB : Sub B h₁ := fun b o e => hk₁ b o (hB b o e) (base_off bd e o)
    have hjl : j < U.length := by
      rcases Nat.lt_or_ge j U.length with h | h
      · exact h
      · have : U.length - j = 0 := by (first | lia | omega)
        rw [this] at hkap
        exact (hkap ⟨h₁, ge, dr, tk, os⟩ (fun _ _ e _ => e) sB).elim
    have e1 : U.length - 1 - (U.length - j - 1) = j := by (first | lia | omega)
    rw [e1] at hu
    obtain ⟨oa, hoa, na'⟩ := na _ hgen
    have hgen₁ : h₁.IsGen a g := by
      obtain ⟨o', nm, qn, ho', r⟩ := hgen
      rw [hoa] at ho'; cases ho'
      exact ⟨_, nm, qn, hk₁ a _ hoa na', r⟩
    have e2 : U.length - j = (U.length - (j + 1)) + 1 := by (first | lia | omega)
    rw [e2] at hkap
    refine hY T u p tp tu _ _ _ hjl hu hk₁ hT (bare_set (s := (Shared.setGen ⟨hp, ge, dr, tk, os⟩ g .running)) (bare_set hb rfl) hbare)
      ⟨hgen₁, ⟨gs', setGen_self (gs := .running) (setGen_self hgs), fun s'' k b => hkap s'' k b⟩, hlt, bd⟩
  · obtain ⟨hn, h₁, tk₁, rfl, hk₁⟩ := hr
    exact hN (by (first | lia | omega)) _ _ _ (fun b o e n => hk b o (hk₁ b o e n)) (bare_set (s := (Shared.setGen ⟨hp, ge, dr, tk, os⟩ g .running)) (bare_set hb rfl) rfl)

theorem esc_call {K : Frag} {g : Heap} {L : Addr} {l : List (Str × Value)} {n : Nat} {x : Str} {t : Tok} {hp : Heap} {ge : Array GenState} {dr : Drawn} {tk : Nat} {os : OsState} {Q : Value → Shared → Prop} (hK : KOk K) (R : Rm A n) {A' : Around} (hh : A'.handled = none) (C : Cx K g) (F : Fl g L hp l)
    (hx : x.cps.all (· < 128) = true) (hb : AllBare ge)
    (h : ∀ a h' ge' tk', Sub hp h' → L < hp.objs.size → AllBare ge' → EscAt prog w A' a ge.size hp.objs.size g (units 0 false x.cps.toList) 0 h' ge' → hp.objs.size ≤ a → Q (.ref a) ⟨h', ge', dr, tk', os⟩) :
    wpAny (model prog w) A (call (.ref 35) [.str x t]) Q E ⟨hp, ge, dr, tk, os⟩ := by
  obtain ⟨oc, od, osl, doc, pm, an, ct, ho⟩ := hK.fIter.look
  obtain ⟨m, F, hl⟩ := F
  have sb : Sub g hp := F.keep
  have X := C.X.keeps sb
  refine wpAny_call (codeAny_call_generator (fd := fnX (nameOf (stAt 4)) (Str.ofString "_iter_escaped_chars") (paramsOf (stAt 4)) (bodyOf (stAt 4)) (scopeOf (stAt 4)) [] .none .none doc pm an (.ref 34) ct) (body := bodyOf (stAt 4)) R.room (X _ _ ho) rfl co4
    (by kernel_rfl) rfl (codeRec_of X hK.fIter.code) ?_)
  refine BindsTo.of_eq (binds := [(Str.ofString "addr", .str x t)]) (by kernel_rfl) _ _ _ _ (wpAny_newFunctionEnv (fun x hx => of_decide_eq_true (List.all_eq_true.mp cell4 x hx)) (List.forall_mem_singleton.mpr (sc4.t _ (At.mem (by (with_reducible (repeat (first | exact At.hd | apply At.tl))))))) (fun h₀ hns hsb => ?_) sc4.k)
  have k₀ : Sub hp h₀ := fun b o e => hsb.extBut b o (Nat.ne_of_lt (Heap.lt_size e)) (Heap.get?_push_of_some _ e)
  have sz : h₀.objs.size = hp.objs.size + 1 := by rw [hsb.1, Heap.size_push]
  have lL : L < hp.objs.size := F.ns.lt
  refine ⟨(C.lim.keeps sb).keeps k₀, ?_⟩
  show Q (.ref h₀.objs.size) _
  dsimp only
  refine h h₀.objs.size _ _ _ (fun b o e => Heap.get?_push_of_some _ (k₀ b o e)) lL (hb.push rfl) ⟨⟨_, _, _, Heap.get?_push_size _ rfl, rfl, rfl, rfl⟩, ⟨.fresh (.func (bodyOf (stAt 4)) (env4 hp.objs.size)), ?_, fun s'' ki sB => And.intro rfl ?_⟩, ?_, Nat.le_trans F.above (Nat.le_of_lt lL)⟩ ?_
  · exact Array.getElem?_push_size ..
  · have F₀ : Fl g hp.objs.size s''.heap [(Str.ofString "addr", .str x t)] := Fl.keepI (B := g) (h := h₀) (l := [(Str.ofString "addr", .str x t)]) (fun b o e i => ki b o (Heap.get?_push_of_some _ e) i) sB
      ⟨_, ⟨hns, fun b o e => k₀ b o (sb b o e), Nat.le_trans F.above (Nat.le_of_lt lL)⟩, Lk.binds (by show [Str.ofString "addr"].Nodup; decide +kernel)⟩
    exact esc_seg (A := A'.in1) hK hh C hx F₀
  · rw [sz]; exact Nat.lt_succ_self _
  · rw [sz]; exact Nat.le_succ _
end

-- flat rules for the walk
section
variable {prog : Program} {w : World} {A : Around} {E : Value → Shared → Prop} {s : Shared} {K : Frag} {g : Heap} {L a : Addr} {l l1 l2 : List (Str × Value)} {cn : Str} {cs : Scope} {ccd : Value} {cl : List (Str × Addr)} {news news' : List (Addr × Obj)}
  {hp : Heap} {ge : Array GenState} {dr : Drawn} {tk : Nat} {os : OsState} {env : Env} {Q : Value → Shared → Prop}
theorem Fl.keeps {W : List Addr} {h h' : Heap} (F : Fl g L h l) (k : Keep W h h') (hL : L ∉ W) (hB : ∀ b ∈ W, g.get? b = none) : Fl g L h' l :=
  let ⟨m, F, K⟩ := F
  ⟨m, ⟨F.ns.at' fun o e => k _ o hL e, fun b o e => k b o (fun q => by rw [hB b q] at e; cases e) (F.keep b o e), F.above⟩, K⟩
theorem Keep.refl {W : List Addr} {h : Heap} : Keep W h h := fun _ _ _ e => e
theorem Keep.step {W W1 : List Addr} {h h2 h' : Heap} (k : Keep W1 h h2) (hW : ∀ b ∈ W1, b ∈ W) (r : Keep W h2 h') : Keep W h h' := fun b o n e => r b o n (k b o (fun m => n (hW b m)) e)
theorem Keep.stepS {W : List Addr} {h h2 h' : Heap} (k : Sub h h2) (r : Keep W h2 h') : Keep W h h' := fun b o n e => r b o n (k b o e)
theorem not_ity {n₀ b : Addr} (hb : b < n₀) (o : Obj) : ¬ Ity n₀ b o := fun q => by
  rcases q with rfl | ⟨q, _⟩
  · exact Nat.lt_irrefl _ hb
  · exact Nat.lt_irrefl _ (Nat.lt_trans q hb)
theorem Fl.above {h : Heap} (F : Fl g L h l) : g.objs.size ≤ L := let ⟨_, F, _⟩ := F; F.above
theorem Fl.keepG {n₀ : Addr} {h h' : Heap} (F : Fl g L h l) (k : KeepG n₀ h h') (hL : L < n₀) (bd : g.objs.size ≤ n₀) : Fl g L h' l :=
  let ⟨m, F, K⟩ := F; ⟨m, ⟨F.ns.at' fun o e => k _ o e (not_ity hL o), fun b o e => k b o (F.keep b o e) (base_off bd e o), F.above⟩, K⟩
theorem News.keepG {n₀ : Addr} {h h' : Heap} (N : News g L h news) (k : KeepG n₀ h h') (hn : ∀ p ∈ news, p.1 < n₀) : News g L h' news :=
  fun p hp => ⟨k _ _ (N p hp).1 (not_ity (hn p hp) _), (N p hp).2⟩
theorem EscAt.keepW {a g' n₀ B U j h ge} (X : EscAt prog w A a g' n₀ B U j h ge) {h' : Heap} {W : List Addr} (k : Keep W h h') (hW : ∀ b ∈ W, b < n₀) : EscAt prog w A a g' n₀ B U j h' ge :=
  X.keep (fun b o e i => k b o (fun m => not_ity (hW b m) o i) e) fun o e => k a o (fun m => Nat.lt_irrefl _ (Nat.lt_trans X.lt (hW a m))) e
theorem addI {a b : Int} {t u : Tok} (h : Q (.int (a + b) tk) ⟨hp, ge, dr, tk + 1, os⟩) : wpAny (model prog w) A (binaryOp .Add (.int a t) (.int b u)) Q E ⟨hp, ge, dr, tk, os⟩ := add_int h
theorem iaddI {a b : Int} {t u : Tok} (h : Q (.int (a + b) tk) ⟨hp, ge, dr, tk + 1, os⟩) : wpAny (model prog w) A (inplaceOp .Add (.int a t) (.int b u)) Q E ⟨hp, ge, dr, tk, os⟩ := iadd_int h
theorem isubI {a b : Int} {t u : Tok} (h : Q (.int (a - b) tk) ⟨hp, ge, dr, tk + 1, os⟩) : wpAny (model prog w) A (inplaceOp .Sub (.int a t) (.int b u)) Q E ⟨hp, ge, dr, tk, os⟩ := isub_int h
theorem subI {a b : Int} {t u : Tok} (h : Q (.int (a - b) tk) ⟨hp, ge, dr, tk + 1, os⟩) : wpAny (model prog w) A (binaryOp .Sub (.int a t) (.int b u)) Q E ⟨hp, ge, dr, tk, os⟩ := PyProof.Rows.sub_int h
theorem modI {a b : Int} {t u : Tok} (hb : b ≠ 0) (h : Q (.int (a.fmod b) tk) ⟨hp, ge, dr, tk + 1, os⟩) : wpAny (model prog w) A (binaryOp .Mod (.int a t) (.int b u)) Q E ⟨hp, ge, dr, tk, os⟩ := mod_int' hb h
theorem fdivI {a b : Int} {t u : Tok} (hb : b ≠ 0) (hl : Builtin.divisionGoesByPylong a b = false) (h : Q (.int (a.fdiv b) tk) ⟨hp, ge, dr, tk + 1, os⟩) : wpAny (model prog w) A (binaryOp .FloorDiv (.int a t) (.int b u)) Q E ⟨hp, ge, dr, tk, os⟩ := floordiv_int hb h (.inl hl)
theorem addS {x y : Str} {t u : Tok} (hsz : x.length + y.length ≤ sizeLine) (h : ∀ t' tk', Q (.str (x ++ y) t') ⟨hp, ge, dr, tk', os⟩) : wpAny (model prog w) A (binaryOp .Add (.str x t) (.str y u)) Q E ⟨hp, ge, dr, tk, os⟩ := add_str (fun t' tk' => h t' tk') hsz
theorem iaddS {x y : Str} {t u : Tok} (hsz : x.length + y.length ≤ sizeLine) (h : ∀ t' tk', Q (.str (x ++ y) t') ⟨hp, ge, dr, tk', os⟩) : wpAny (model prog w) A (inplaceOp .Add (.str x t) (.str y u)) Q E ⟨hp, ge, dr, tk, os⟩ := iadd_str (fun t' tk' => h t' tk') hsz
theorem lenS {x : Str} {t : Tok} (hfit : ¬ (x.length : Int) ≥ 2 ^ 63) (h : ∀ t' tk', Q (.int x.length t') ⟨hp, ge, dr, tk', os⟩) : wpAny (model prog w) A (call (.builtin "len") [.str x t]) Q E ⟨hp, ge, dr, tk, os⟩ := len_str hfit (h _ _)
noncomputable def SlOn (M : Model) (A : Around) (E : Value → Shared → Prop) (o lo hi : Value) (Q : Value → Shared → Prop) (s : Shared) : Prop :=
  ItemOn M A E o (.ref s.heap.objs.size) Q { s with heap := s.heap.push { cls := .type "slice", data := .fields #[lo, hi, .none] } }
theorem sl_ee {M : Model} {value a b : Expr} {p pos : Pos}
    (h : wpAny M A (eval value env) (fun o s₁ => wpAny M A (eval a env) (fun i s₂ => wpAny M A (eval b env) (fun j s₃ => SlOn M A E o i j Q s₃) E s₂) E s₁) E s)
    (ht : ∀ o r, letTemporaryGo value o r = pure () := by intro _ _; rfl) : wpAny M A (eval (.Subscript value (.Slice (some a) (some b) none p) pos) env) Q E s :=
  Subscript_Slice (wpAny_mono h (fun o s₁ h₁ => wpAny_Slice (wpAny_mono h₁ (fun i s₂ h₂ => wpAny_mono h₂ (fun j s₃ h₃ => wpAny_pure h₃) fun _ _ x => x) fun _ _ x => x)) fun _ _ x => x) ht
theorem sl_en {M : Model} {value a : Expr} {p pos : Pos}
    (h : wpAny M A (eval value env) (fun o s₁ => wpAny M A (eval a env) (fun i s₂ => SlOn M A E o i .none Q s₂) E s₁) E s)
    (ht : ∀ o r, letTemporaryGo value o r = pure () := by intro _ _; rfl) : wpAny M A (eval (.Subscript value (.Slice (some a) none none p) pos) env) Q E s :=
  Subscript_Slice (wpAny_mono h (fun o s₁ h₁ => wpAny_Slice (wpAny_mono h₁ (fun i s₂ h₂ => wpAny_pure (wpAny_pure h₂)) fun _ _ x => x)) fun _ _ x => x) ht
theorem sl_ne {M : Model} {value b : Expr} {p pos : Pos}
    (h : wpAny M A (eval value env) (fun o s₁ => wpAny M A (eval b env) (fun j s₂ => SlOn M A E o .none j Q s₂) E s₁) E s)
    (ht : ∀ o r, letTemporaryGo value o r = pure () := by intro _ _; rfl) : wpAny M A (eval (.Subscript value (.Slice none (some b) none p) pos) env) Q E s :=
  Subscript_Slice (wpAny_mono h (fun o s₁ h₁ => wpAny_Slice (wpAny_pure (wpAny_mono h₁ (fun j s₂ h₂ => wpAny_pure h₂) fun _ _ x => x))) fun _ _ x => x) ht
theorem kSub {h₀ : Heap} : KeptH (Sub h₀) := fun _ ob k b o e => Heap.get?_push_of_some ob (k b o e)
theorem slS_ss {x : Str} {t : Tok} {i j : Int} {ui uj : Tok} (hsz : x.length ≤ sizeLine) (h : ∀ h' t' tk', Sub hp h' → Q (.str (Txt.slice x (some i) (some j)) t') ⟨h', ge, dr, tk', os⟩) : SlOn (model prog w) A E (.str x t) (.int i ui) (.int j uj) Q ⟨hp, ge, dr, tk, os⟩ :=
  SBH.sliceItem_ss (kSub (h₀ := hp)) Sub.refl (fun h' t' tk' k => h h' t' tk' k) hsz
theorem slS_sn {x : Str} {t : Tok} {i : Int} {ui : Tok} (hsz : x.length ≤ sizeLine) (h : ∀ h' t' tk', Sub hp h' → Q (.str (Txt.slice x (some i) none) t') ⟨h', ge, dr, tk', os⟩) : SlOn (model prog w) A E (.str x t) (.int i ui) .none Q ⟨hp, ge, dr, tk, os⟩ :=
  SBH.sliceItem_sn (kSub (h₀ := hp)) Sub.refl (fun h' t' tk' k => h h' t' tk' k) hsz
theorem mcall {M : Model} {o : Expr} {name : Str} {apos pos : Pos} {args : List Expr} {pl : Sem Bool}
    (h : wpAny M A (eval o env) (fun ov s₁ => wpAny M A (getMethod ov name pl) (fun fx s₂ => wpAny M A (callWith pos fx.1 fx.2 (backTo pos (starEach args env)) []) Q E s₂) E s₁) E s)
    (he : eval (.Call (.Attribute o name apos) args [] pos) env = (do
      let ov ← eval o env
      standAt apos.atName
      let (f, first) ← holding [ov] (getMethod ov name pl)
      callWith pos f first (backTo pos (starEach args env)) (backToKw pos (keywordEach [] env))) := by rfl) :
    wpAny M A (eval (.Call (.Attribute o name apos) args [] pos) env) Q E s := methodCall_KW h he
theorem cwB {M : Model} {pos : Pos} {id : String} {first : List Value} {e : Expr} {rest : List Expr}
    (h : wpAny M A (spliced (backTo pos (starEach (e :: rest) env))) (fun vs s₁ => wpAny M A (call (.builtin id) (first ++ vs)) Q E s₁) E s)
    (he : starEach (e :: rest) env = (false, eval e env) :: starEach rest env := by rfl)
    (hplain : (backTo pos (starEach rest env)).any (·.1) = false := by rfl) :
    wpAny M A (callWith pos (.builtin id) first (backTo pos (starEach (e :: rest) env)) []) Q E s := by
  rw [he] at h ⊢
  exact Calls.callWith_builtin (by show (false || (backTo pos (starEach rest env)).any (·.1)) = false; rw [hplain]; rfl) (Calls.evalArgs_plain h)
theorem getApp {D : Addr} {its : Array Value} {n : Nat} {pl : Sem Bool} {Q : Value × List Value → Shared → Prop} (N : News g L hp news) (hm : (D, listOf its n) ∈ news)
    (h : Q (.builtin "list.append", [.ref D]) ⟨hp, ge, dr, tk, os⟩) : wpAny (model prog w) A (getMethod (.ref D) "append" pl) Q E ⟨hp, ge, dr, tk, os⟩ := getMethod_append_N (s := ⟨hp, ge, dr, tk, os⟩) N hm h
theorem appL {D : Addr} {its : Array Value} {n : Nat} {x : Value} (F : Fl g L hp l) (N : News g L hp news) (U : Upd D (listOf its n) (listOf (its.push x) (n + 1)) news news') (hsz : its.size ≤ sizeLine)
    (h : ∀ h', Fl g L h' l → News g L h' news' → Keep [D] hp h' → Q .none ⟨h', ge, dr, tk, os⟩) : wpAny (model prog w) A (call (.builtin "list.append") [.ref D, x]) Q E ⟨hp, ge, dr, tk, os⟩ := by
  obtain ⟨pre, post, rfl, rfl, a, b⟩ := U.split
  have z := N (D, listOf its n) (List.mem_append.mpr (.inr (.head _)))
  obtain ⟨m, F, hl⟩ := F
  exact append_at (s := ⟨hp, ge, dr, tk, os⟩) (hsz := hsz) z.1 fun h' hs ho' => h h' ⟨m, F.change hs z.2.1 z.2.2, hl⟩ (news_set N a b hs ho') fun b o n e => (hs.2 b (fun q => n (List.mem_singleton.mpr q))).trans e
noncomputable def MkOn (c : String) (vs : List Value) (Q : Value → Shared → Prop) (s : Shared) : Prop := vs.length ≤ sizeLine ∧ Q (.ref s.heap.objs.size) { s with heap := s.heap.push { cls := .type c, data := .seq vs.toArray } }
theorem ListE {M : Model} {elts : List Expr} {pos : Pos} (h : wpAny M A (spliced (backTo pos (starEach elts env))) (fun vs s₁ => MkOn "list" vs Q s₁) E s) : wpAny M A (eval (.List elts pos) env) Q E s := wpAny_List h
theorem TupE {M : Model} {elts : List Expr} {k : Nat} {pos : Pos} (h : wpAny M A (spliced (backTo pos (starEach elts env))) (fun vs s₁ => MkOn "tuple" vs Q s₁) E s) : wpAny M A (eval (.Tuple elts k pos) env) Q E s := wpAny_Tuple h
theorem mkL {vs : List Value} (F : Fl g L hp l) (N : News g L hp news) (hsz : vs.length ≤ sizeLine) (h : ∀ D h', Fl g L h' l → News g L h' ((D, listOf vs.toArray 0) :: news) → (∀ p ∈ news, p.1 ≠ D) → Sub hp h' → hp.objs.size ≤ D → Q (.ref D) ⟨h', ge, dr, tk, os⟩) :
    MkOn "list" vs Q ⟨hp, ge, dr, tk, os⟩ := by
  obtain ⟨m, F, hl⟩ := F
  exact ⟨hsz, h _ _ ⟨m, F.push _, hl⟩ (N.push F _) (fun p hp => Nat.ne_of_lt (Heap.lt_size (N p hp).1)) (fun b o e => Heap.get?_push_of_some _ e) (Nat.le_refl _)⟩
theorem mkT {vs : List Value} (F : Fl g L hp l) (N : News g L hp news) (hsz : vs.length ≤ sizeLine) (h : ∀ T h', Fl g L h' l → News g L h' news → h'.IsTuple T vs.toArray → Sub hp h' → hp.objs.size ≤ T → Q (.ref T) ⟨h', ge, dr, tk, os⟩) :
    MkOn "tuple" vs Q ⟨hp, ge, dr, tk, os⟩ := by
  obtain ⟨m, F, hl⟩ := F
  exact ⟨hsz, h _ _ ⟨m, F.push _, hl⟩ (News.ext N fun b o e => Heap.get?_push_of_some _ e) ⟨_, Heap.get?_push_size _ rfl, rfl, _, rfl⟩ (fun b o e => Heap.get?_push_of_some _ e) (Nat.le_refl _)⟩
theorem joinL {x : Str} {t : Tok} {D : Addr} {items : Array Value} {ys : List Str} (hl : hp.IsList D items) (hi : StrsAre items.toList ys) (hsep : x.length ≤ 16) (hw : (ys.map (·.length)).sum + ys.length ≤ 1048576)
    (h : ∀ t' tk', Q (.str (Txt.join x ys) t') ⟨hp, ge, dr, tk', os⟩) : wpAny (model prog w) A (call (.builtin "str.join") [.str x t, .ref D]) Q E ⟨hp, ge, dr, tk, os⟩ := join_listW (s := ⟨hp, ge, dr, tk, os⟩) hl hi hsep hw (fun t' tk' => h t' tk')
theorem If_ {test : Expr} {body orelse : List Stmt} {pos : Pos} {M : Model} {Q : Flow → Shared → Prop} (h : wpAny M A (isTrue test env (eval test env)) (fun b s₂ => if b = true then wpAny M A (execs body env) Q E s₂ else wpAny M A (execs orelse env) Q E s₂) E s) :
    wpAny M A (exec (.If test body orelse pos) env) Q E s := wpAny_If h
theorem news1 {h : Heap} {D : Addr} {its : Array Value} {n : Nat} (N : News g L h news) (m : (D, listOf its n) ∈ news) : h.IsList D its := ⟨_, (N _ m).1, rfl, n, rfl⟩
theorem FnK.keep {f : Addr} {st : Stmt} {q : Str} {c : Addr} (FK : FnK K f st q c) : keepIn K (.ref f) = true := by
  obtain ⟨oc, od, osl, doc, pm, an, ct, h⟩ := FK.look
  have h' : K.lookup f = _ := h
  simp only [keepIn, h']
theorem cwF {M : Model} {f : Addr} {st : Stmt} {q : Str} {c : Addr} {pos : Pos} {first : List Value} {e : Expr} {rest : List Expr} (FK : FnK K f st q c) (C : Cx K g)
    (h : wpAny M A (spliced (backTo pos (starEach (e :: rest) env))) (fun vs s₁ => (∃ L l, Fl g L s₁.heap l) ∧ wpAny M A (call (.ref f) (first ++ vs)) Q E s₁) E s)
    (he : starEach (e :: rest) env = (false, eval e env) :: starEach rest env := by rfl)
    (hplain : (backTo pos (starEach rest env)).any (·.1) = false := by rfl) :
    wpAny M A (callWith pos (.ref f) first (backTo pos (starEach (e :: rest) env)) []) Q E s :=
  callWith_K C.X FK.keep (wpAny_mono h (fun vs s₁ h₁ => ⟨let ⟨⟨_, _, F⟩, _⟩ := h₁; C.X.keeps F.keep, h₁.2⟩) fun _ _ x => x) he hplain
noncomputable def TurnP (I : Heap → Prop) (W : List Addr) (h : Heap) (ge : Array GenState) (dr : Drawn) (os : OsState) (Rt : Value → Shared → Prop) : Flow → Shared → Prop := fun f s => match f with
  | .next => ∃ h' tk', s = ⟨h', ge, dr, tk', os⟩ ∧ I h' ∧ Keep W h h'
  | .cont => ∃ h' tk', s = ⟨h', ge, dr, tk', os⟩ ∧ I h' ∧ Keep W h h'
  | .brk => False
  | .ret v => Rt v s
theorem letOwned_gen {elts : List Expr} {k : Nat} {pos : Pos} {a : Addr} {gn : Nat} {v : Value} {M : Model} {Q : Unit → Shared → Prop} (h : s.heap.IsGen a gn) (hq : Q () s) : wpAny M A (letOwnedTupleGo (.Tuple elts k pos) (.ref a) v) Q E s := by
  obtain ⟨o, nm, qn, ho, hc, hd, hs⟩ := h
  cases v with
  | ref r =>
    show wpAny M A (do let o ← load a; _) Q E s
    refine wpAny_bind (wpAny_load ho ?_)
    rw [hc, hd]
    show wpAny M A (if _ then _ else _) Q E s
    rw [if_neg (by simp)]
    exact wpAny_pure hq
  | _ => exact wpAny_pure hq
theorem esc_for {kt} {pi pv pt p1 p2 p3 pos : Pos} {k : Nat} {body : List Stmt} {x : Str} {t : Tok} {n : Nat} {Q : Flow → Shared → Prop} (hK : KOk K) (R : Rm A (n + 1)) (S : Sc cs kt) (C : Cx K g) (F : Fl g L hp l) (N : News g L hp news) (hx : x.cps.all (· < 128) = true) (hb : AllBare ge)
    (hf : At (Str.ofString "_iter_escaped_chars") NameKind.globalImplicit kt) (ha : At (Str.ofString "addr") NameKind.local kt) (hv : At (Str.ofString "addr") (.str x t) l)
    (W : List Addr) (hW : ∀ b ∈ W, b < hp.objs.size) (Rt : Value → Shared → Prop)
    (I : Nat → Heap → Prop) (hI : ∀ j h h', I j h → KeepG hp.objs.size h h' → I j h') (hs : ∀ j h, I j h → Sub g h) (h0 : I 0 hp)
    (turn : ∀ j T h ge tk p u tp tu, (units 0 false x.cps.toList)[j]? = some (p, u) → I j h → AllBare ge → h.IsTuple T #[.int (p : Nat) tp, .str ⟨u.toArray⟩ tu] →
      wpAny (model prog w) A (assign (.Tuple [.Name (Str.ofString "pos") pi, .Name (Str.ofString "ch") pv] k pt) (envX cn cs L a ccd cl) (.ref T)) (fun _ s₃ => wpAny (model prog w) A (execs body (envX cn cs L a ccd cl)) (TurnP (I (j + 1)) W h ge dr os (fun v s => Q (.ret v) s)) NoE s₃) NoE ⟨h, ge, dr, tk, os⟩)
    (done : ∀ h ge tk, I (units 0 false x.cps.toList).length h → AllBare ge → Q .next ⟨h, ge, dr, tk, os⟩) :
    wpAny (model prog w) A (exec (.For (.Tuple [.Name (Str.ofString "pos") pi, .Name (Str.ofString "ch") pv] k pt) (.Call (.Name (Str.ofString "_iter_escaped_chars") p1) [.Name (Str.ofString "addr") p2] [] p3) body [] pos) (envX cn cs L a ccd cl)) Q E ⟨hp, ge, dr, tk, os⟩ := by
  refine for_stmt (Call_ (nmG hK S F C hf (by (with_reducible (repeat (first | exact At.hd | apply At.tl)))) (cwF hK.fIter C (args_cons (nmL S F ha hv (args_nil ⟨⟨_, _, F⟩, ?_⟩))))))
  refine esc_call hK R (A' := A) R.h C F hx hb fun a' h₁ ge₁ tk₁ k₁ hL hb₁ X hlt => wpAny_pyIter_gen X.gen ?_
  refine for_turns (fun m s => ∃ j h ge tk, m = (units 0 false x.cps.toList).length - j ∧ j ≤ (units 0 false x.cps.toList).length ∧ s = ⟨h, ge, dr, tk, os⟩ ∧ I j h ∧ AllBare ge ∧ EscAt prog w A a' _ hp.objs.size g (units 0 false x.cps.toList) j h ge) ?_ _ ⟨0, h₁, ge₁, tk₁, rfl, Nat.zero_le _, rfl, hI _ _ _ h0 (KeepG.of k₁), hb₁, X⟩
  rintro m _ ⟨j, h, ge', tk', rfl, hj, rfl, hIj, hb', X'⟩
  have lim : h.NoLimit := C.lim.keeps (hs _ _ hIj)
  refine esc_next R.h lim R.room X' (hs _ _ hIj) hb' hj (fun T u p tp tu h₂ ge₂ tk₂ hjl hu k₂ hT hb₂ X₂ => ?_) (fun hjl h₂ ge₂ tk₂ k₂ hb₂ => ?_)
  · dsimp only
    refine letOwned_gen X₂.gen ?_
    refine wpAny_mono (turn j T h₂ ge₂ tk₂ p u tp tu hu (hI _ _ _ hIj k₂) hb₂ ⟨_, hT, rfl, _, rfl⟩) (fun _ s₃ h₃ => wpAny_mono h₃ (fun f s₄ h₄ => ?_) fun _ _ x => x) fun _ _ x => x
    cases f with
    | next => obtain ⟨h', tk'', rfl, hI', kW⟩ := h₄; exact ⟨_, by omega, j + 1, h', ge₂, tk'', rfl, hjl, rfl, hI', hb₂, X₂.keepW kW hW⟩
    | cont => obtain ⟨h', tk'', rfl, hI', kW⟩ := h₄; exact ⟨_, by omega, j + 1, h', ge₂, tk'', rfl, hjl, rfl, hI', hb₂, X₂.keepW kW hW⟩
    | brk => exact h₄.elim
    | ret v => exact h₄
  · exact done _ _ _ (hjl ▸ hI _ _ _ hIj k₂) hb₂
end

-- plain laws on texts
theorem pick_eq {α : Type} (l : List α) (a : Nat) : ∀ k, (List.range k).filterMap (fun i => l[a + i]?) = (l.drop a).take k
  | 0 => by simp
  | k + 1 => by
    rw [List.range_succ, List.filterMap_append, pick_eq l a k, List.take_succ, List.getElem?_drop]
    cases h : l[a + k]? <;> simp [h]
theorem range_pick {α : Type} (x : Array α) (a b : Nat) : (sliceRange a b 1).filterMap (x[·]?) = (x.toList.drop a).take (b - a) := by
  rw [sliceRange_one, List.filterMap_map, ← pick_eq]
  congr 1
  funext i
  simp
theorem clip_nat (i n : Nat) : (max 0 (min (if (i : Int) < 0 then (i : Int) + (n : Int) else (i : Int)) (n : Int)) : Int) = ((min i n : Nat) : Int) := by
  rw [if_neg (by (first | lia | omega))]; (first | lia | omega)
theorem cut_min {α : Type} (l : List α) (i j : Nat) : (l.drop (min i l.length)).take (min j l.length - min i l.length) = (l.drop i).take (j - i) := by
  by_cases hi : i ≤ l.length
  · rw [Nat.min_eq_left hi]
    by_cases hj : j ≤ l.length
    · rw [Nat.min_eq_left hj]
    · rw [Nat.min_eq_right (Nat.le_of_lt (Nat.lt_of_not_le hj)), List.take_of_length_le (by simp), List.take_of_length_le (by simp; (first | lia | omega))]
  · have hi' : l.length ≤ i := Nat.le_of_lt (Nat.lt_of_not_le hi)
    rw [Nat.min_eq_right hi', List.drop_of_length_le hi', List.drop_of_length_le (Nat.le_refl _)]
    simp
theorem idx_ss (n i j : Nat) : Builtin.Str.strSliceIndices (some (i : Int)) (some (j : Int)) 1 n = sliceRange ((min i n : Nat) : Int) ((min j n : Nat) : Int) 1 := by
  unfold Builtin.Str.strSliceIndices
  simp only [show (1 : Int) > 0 by decide, if_true, clip_nat]
theorem idx_sn (n i : Nat) : Builtin.Str.strSliceIndices (some (i : Int)) none 1 n = sliceRange ((min i n : Nat) : Int) (n : Int) 1 := by
  unfold Builtin.Str.strSliceIndices
  simp only [show (1 : Int) > 0 by decide, if_true, clip_nat]
theorem len_range_one (a b : Nat) : (sliceRange (a : Int) (b : Int) 1).length = b - a := by rw [sliceRange_one]; simp
theorem slice_aux (x : Str) (a b : Nat) (hb : b ≤ x.length) : (if ((1 : Int) == 1 && (sliceRange (a : Int) (b : Int) 1).length == x.length) = true then x else ⟨((sliceRange (a : Int) (b : Int) 1).filterMap (x.cps[·]?)).toArray⟩) = ⟨((x.cps.toList.drop a).take (b - a)).toArray⟩ := by
  rw [range_pick, len_range_one]
  split
  · rename_i hc
    have hb' : b ≤ x.cps.size := hb
    have h2 : b - a = x.cps.size := by have h5 : b - a = x.length := by simpa using hc
                                       exact h5
    have h3 : (x.cps.toList.drop a).take (b - a) = x.cps.toList := by
      by_cases h0 : x.cps.size = 0
      · have : x.cps.toList = [] := by rw [← List.length_eq_zero_iff]; simpa using h0
        rw [this]; simp
      · have : a = 0 := by (first | lia | omega)
        subst this
        rw [List.drop_zero]; exact List.take_of_length_le (by simp; (first | lia | omega))
    rw [h3]
  · rfl
theorem slice_ss (x : Str) (i j : Nat) : Txt.slice x (some (i : Int)) (some (j : Int)) = ⟨((x.cps.toList.drop i).take (j - i)).toArray⟩ := by
  unfold Txt.slice
  rw [idx_ss, slice_aux _ _ _ (Nat.min_le_right _ _)]
  have e := cut_min x.cps.toList i j
  rw [Array.length_toList] at e
  exact congrArg (fun z : List Nat => (⟨z.toArray⟩ : Str)) e
theorem slice_sn (x : Str) (i : Nat) : Txt.slice x (some (i : Int)) none = ⟨(x.cps.toList.drop i).toArray⟩ := by
  unfold Txt.slice
  rw [idx_sn, show x.length = x.cps.size from rfl]
  have := slice_aux x (min i x.cps.size) x.cps.size (Nat.le_refl x.cps.size)
  rw [show x.length = x.cps.size from rfl] at this
  rw [this]
  have e := cut_min x.cps.toList i x.cps.toList.length
  rw [Nat.min_self, Array.length_toList] at e
  rw [e, List.take_of_length_le (by simp)]
theorem glued_empty : ∀ l : List (List Nat), Builtin.Str.glued ⟨#[]⟩ (l.map fun u => (⟨u.toArray⟩ : Str)) = ⟨l.flatten.toArray⟩ := by
  have key : ∀ (l : List (List Nat)) (acc : Array Nat), List.foldl (fun acc (p : Str) => acc ++ (#[] : Array Nat) ++ p.cps) acc (l.map fun u => (⟨u.toArray⟩ : Str)) = acc ++ l.flatten.toArray := by
    intro l
    induction l with
    | nil => intro acc; simp
    | cons u r ih => intro acc; rw [List.map_cons, List.foldl_cons, ih]; simp
  intro l
  unfold Builtin.Str.glued
  cases l with
  | nil => rfl
  | cons u r =>
    show (⟨List.foldl _ _ (r.map _)⟩ : Str) = _
    rw [key]
    simp

-- values without tokens, objects without addresses
set_option genSizeOf false
inductive D where
  | none | bool (b : Bool) | int (i : Int) | str (s : Str) | flt (b : UInt64) | val (v : Value) | lst (ds : List D) | tup (ds : List D) | rng (a b : Int) | ob (i : Nat) | sub (i j : Nat)
inductive OD where
  | lst (ds : List D) | lex (cs : List Nat) (pb : List Str) (ln : Int) | cit (i : Nat) (ended : Bool)
noncomputable abbrev Zs := List (List Addr)
inductive Is (zs : Zs) (W : List Addr) (h : Heap) : D → Value → Prop
  | none : Is zs W h .none .none
  | bool {b} : Is zs W h (.bool b) (.bool b)
  | int {i t} : Is zs W h (.int i) (.int i t)
  | str {s t} : Is zs W h (.str s) (.str s t)
  | flt {b t} : Is zs W h (.flt b) (.float b t)
  | val {v} : Is zs W h (.val v) v
  | lst {a vs ds} : h.IsList a vs.toArray → a ∉ W → vs.length = ds.length → (∀ p ∈ ds.zip vs, Is zs W h p.1 p.2) → Is zs W h (.lst ds) (.ref a)
  | tup {a vs ds} : h.IsTuple a vs.toArray → a ∉ W → vs.length = ds.length → (∀ p ∈ ds.zip vs, Is zs W h p.1 p.2) → Is zs W h (.tup ds) (.ref a)
  | rng {r a b t u v} : IsRange h r a b 1 t u v → r ∉ W → Is zs W h (.rng a b) (.ref r)
  | ob {i a r} : zs[i]? = some (a :: r) → Is zs W h (.ob i) (.ref a)
  | sub {i j z a} : zs[i]? = some z → z[j]? = some a → Is zs W h (.sub i j) (.ref a)
noncomputable def IsL (zs : Zs) (W : List Addr) (h : Heap) (ds : List D) (vs : List Value) : Prop := vs.length = ds.length ∧ ∀ p ∈ ds.zip vs, Is zs W h p.1 p.2
/-- from one state on to a later one: what is done to the heap; F: what may be changed -/
structure Ex (F : List Addr) (zs : Zs) (W : List Addr) (h : Heap) (zs' : Zs) (W' : List Addr) (h' : Heap) : Prop where
  pre : ∃ ws, zs' = zs ++ ws
  sub : ∀ b ∈ W, b ∈ W'
  new : ∀ b ∈ W', b ∈ W ∨ h.get? b = none
  nw : ∀ b ∈ zs'.flatten, b ∈ zs.flatten ∨ h.get? b = none
  kp : Keep F h h'
  lv : ∀ b ∈ F, b ∈ zs.flatten ∨ ((∃ o, h.get? b = some o) ∧ ∃ o, h'.get? b = some o)
noncomputable abbrev Ex0 (zs : Zs) (W : List Addr) (h : Heap) (zs' : Zs) (W' : List Addr) (h' : Heap) : Prop := Ex zs.flatten zs W h zs' W' h'
theorem Ex0.refl {zs W h} : Ex0 zs W h zs W h := ⟨⟨[], by simp⟩, fun _ m => m, fun _ m => .inl m, fun _ m => .inl m, Keep.refl, fun _ m => .inl m⟩
theorem Ex.trans {F F' zs W h zs' W' h' zs'' W'' h''} (hW : ∀ b ∈ zs.flatten, b ∈ W) (hz : ∀ b ∈ zs.flatten, b ∈ F) (hF : ∀ b ∈ F', b ∈ F ∨ b ∈ zs'.flatten) (x : Ex F zs W h zs' W' h') (y : Ex F' zs' W' h' zs'' W'' h'') : Ex F zs W h zs'' W'' h'' := by
  obtain ⟨⟨w1, rfl⟩, s1, n1, z1, k1, l1⟩ := x
  obtain ⟨⟨w2, rfl⟩, s2, n2, z2, k2, l2⟩ := y
  have back : ∀ b, b ∉ zs.flatten → h'.get? b = none → h.get? b = none := fun b hb e => by
    cases q : h.get? b with
    | none => rfl
    | some o =>
      by_cases hf : b ∈ F
      · rcases l1 b hf with m | ⟨_, o', e'⟩
        · exact absurd m hb
        · rw [e] at e'; cases e'
      · rw [k1 b o hf q] at e; cases e
  refine ⟨⟨w1 ++ w2, by simp⟩, fun b m => s2 b (s1 b m), fun b m => ?_, fun b m => ?_, fun b o n e => k2 b o (fun m => ?_) (k1 b o n e), fun b m => ?_⟩
  · rcases n2 b m with m | e
    · exact n1 b m
    · by_cases hb : b ∈ W
      · exact .inl hb
      · exact .inr (back b (fun z => hb (hW b z)) e)
  · rcases z2 b m with m | e
    · exact z1 b m
    · by_cases hb : b ∈ zs.flatten
      · exact .inl hb
      · exact .inr (back b hb e)
  · rcases hF b m with q | q
    · exact n q
    · rcases z1 b q with q | q
      · exact n (hz b q)
      · rw [e] at q; cases q
  · rcases l1 b m with q | ⟨⟨o, e⟩, o', e'⟩
    · exact .inl q
    · by_cases hb : b ∈ F'
      · rcases l2 b hb with q | ⟨_, q⟩
        · rcases z1 b q with q | q
          · exact .inl q
          · rw [e] at q; cases q
        · exact .inr ⟨⟨o, e⟩, q⟩
      · exact .inr ⟨⟨o, e⟩, o', k2 b o' hb e'⟩
theorem Ex0.trans {zs W h zs' W' h' zs'' W'' h''} (hW : ∀ b ∈ zs.flatten, b ∈ W) (x : Ex0 zs W h zs' W' h') (y : Ex0 zs' W' h' zs'' W'' h'') : Ex0 zs W h zs'' W'' h'' := Ex.trans hW (fun _ m => m) (fun _ m => .inr m) x y
theorem Ex0.ofSub {zs W h h'} (k : Sub h h') : Ex0 zs W h zs W h' := ⟨⟨[], by simp⟩, fun _ m => m, fun _ m => .inl m, fun _ m => .inl m, fun b o _ e => k b o e, fun _ m => .inl m⟩
noncomputable def NoSeq (h : Heap) (b : Addr) : Prop := ∃ o es n, h.get? b = some o ∧ o.data = .dict es n
theorem Is.per {F zs W h zs' W' h' d v} (x : Ex F zs W h zs' W' h') (hF : ∀ b ∈ F, b ∈ W ∨ NoSeq h b) (i : Is zs W h d v) : Is zs' W' h' d v := by
  obtain ⟨⟨ws, rfl⟩, s, n, _, k, _⟩ := x
  have off : ∀ {a : Addr} {o : Obj}, a ∉ W → h.get? a = some o → a ∉ W' := fun ha e q => by
    rcases n _ q with q | q
    · exact ha q
    · rw [q] at e; cases e
  have kp : ∀ {a : Addr} {o : Obj}, a ∉ W → h.get? a = some o → (∀ es n, o.data ≠ .dict es n) → h'.get? a = some o := fun ha e hd => k _ _ (fun q => by
    rcases hF _ q with q | ⟨o', es, n', e', hd'⟩
    · exact ha q
    · rw [e] at e'; cases e'; exact hd _ _ hd') e
  induction i with
  | none => exact .none
  | bool => exact .bool
  | int => exact .int
  | str => exact .str
  | flt => exact .flt
  | val => exact .val
  | lst ho ha hl _ ih => obtain ⟨o, ho, hc, n', hd⟩ := ho; exact .lst ⟨o, kp ha ho (fun _ _ e => by rw [hd] at e; cases e), hc, n', hd⟩ (off ha ho) hl ih
  | tup ho ha hl _ ih => obtain ⟨o, ho, hc, n', hd⟩ := ho; exact .tup ⟨o, kp ha ho (fun _ _ e => by rw [hd] at e; cases e), hc, n', hd⟩ (off ha ho) hl ih
  | rng ho ha => exact .rng (kp ha ho (fun _ _ e => by cases e)) (off ha ho)
  | ob e => exact .ob (List.getElem?_append_left (List.getElem?_eq_some_iff.mp e).1 ▸ e)
  | sub e f => exact .sub (List.getElem?_append_left (List.getElem?_eq_some_iff.mp e).1 ▸ e) f
theorem Is.per0 {zs W h zs' W' h' d v} (x : Ex0 zs W h zs' W' h') (hW : ∀ b ∈ zs.flatten, b ∈ W) (i : Is zs W h d v) : Is zs' W' h' d v := i.per x fun b m => .inl (hW b m)
theorem IsL.per {F zs W h zs' W' h' ds vs} (x : Ex F zs W h zs' W' h') (hF : ∀ b ∈ F, b ∈ W ∨ NoSeq h b) (i : IsL zs W h ds vs) : IsL zs' W' h' ds vs := ⟨i.1, fun p m => (i.2 p m).per x hF⟩
theorem IsL.per0 {zs W h zs' W' h' ds vs} (x : Ex0 zs W h zs' W' h') (hW : ∀ b ∈ zs.flatten, b ∈ W) (i : IsL zs W h ds vs) : IsL zs' W' h' ds vs := ⟨i.1, fun p m => (i.2 p m).per0 x hW⟩
theorem IsL.nil {zs W h} : IsL zs W h [] [] := ⟨rfl, fun _ m => nomatch m⟩
theorem IsL.cons {zs W h d v ds vs} (x : Is zs W h d v) (y : IsL zs W h ds vs) : IsL zs W h (d :: ds) (v :: vs) := ⟨by simp [y.1], fun p m => by
  cases m with
  | head => exact x
  | tail _ m => exact y.2 p m⟩
theorem IsL.head {zs W h d v ds vs} (x : IsL zs W h (d :: ds) (v :: vs)) : Is zs W h d v := x.2 (d, v) (.head _)
theorem IsL.tail {zs W h d v ds vs} (x : IsL zs W h (d :: ds) (v :: vs)) : IsL zs W h ds vs := ⟨Nat.succ.inj x.1, fun p m => x.2 p (.tail _ m)⟩
theorem IsL.inv {zs W h d ds vs} (x : IsL zs W h (d :: ds) vs) : ∃ v r, vs = v :: r ∧ Is zs W h d v ∧ IsL zs W h ds r := by
  cases vs with
  | nil => exact absurd x.1 (by simp)
  | cons v r => exact ⟨v, r, rfl, x.head, x.tail⟩
theorem IsL.invNil {zs W h vs} (x : IsL zs W h [] vs) : vs = [] := List.length_eq_zero_iff.mp x.1
theorem IsL.append {zs W h} : ∀ {ds vs es ws}, IsL zs W h ds vs → IsL zs W h es ws → IsL zs W h (ds ++ es) (vs ++ ws)
  | [], _, _, _, x, y => by rw [x.invNil]; exact y
  | d :: ds, _, _, _, x, y => by obtain ⟨v, r, rfl, a, b⟩ := x.inv; exact .cons a (b.append y)
theorem IsL.drop {zs W h} : ∀ {ds vs} (n : Nat), IsL zs W h ds vs → IsL zs W h (ds.drop n) (vs.drop n)
  | _, _, 0, x => x
  | [], _, _ + 1, x => by rw [x.invNil]; simpa using IsL.nil
  | d :: ds, _, n + 1, x => by obtain ⟨v, r, rfl, a, b⟩ := x.inv; exact b.drop n
theorem IsL.take {zs W h} : ∀ {ds vs} (n : Nat), IsL zs W h ds vs → IsL zs W h (ds.take n) (vs.take n)
  | _, _, 0, x => .nil
  | [], _, _ + 1, x => by rw [x.invNil]; simpa using IsL.nil
  | d :: ds, _, n + 1, x => by obtain ⟨v, r, rfl, a, b⟩ := x.inv; exact .cons a (b.take n)
theorem IsL.get {zs W h} : ∀ {ds vs} {i : Nat} {d}, IsL zs W h ds vs → ds[i]? = some d → ∃ v, vs[i]? = some v ∧ Is zs W h d v
  | d :: ds, _, 0, _, x, e => by obtain ⟨v, r, rfl, a, b⟩ := x.inv; cases e; exact ⟨v, rfl, a⟩
  | d :: ds, _, i + 1, _, x, e => by obtain ⟨v, r, rfl, a, b⟩ := x.inv; exact b.get e

set_option genSizeOf false
set_option genInjectivity false
noncomputable section
structure Pm where
  cs : Scope
  vs : List Str
  gs : List Str
structure Pm.Ok (P : Pm) : Prop where
  k : P.cs.kind = .function
  v : ∀ x ∈ P.vs, P.cs.names.lookup x = some .local ∧ (x == ("__debug__" : Str)) = false
  g : ∀ x ∈ P.gs, P.cs.names.lookup x = some .globalImplicit ∧ (x == ("__debug__" : Str)) = false
  n : P.vs.Nodup
theorem Pm.Ok.of {P : Pm} (k : P.cs.kind = .function) (v : (P.vs.all fun x => decide (P.cs.names.lookup x = some .local) && !(x == ("__debug__" : Str))) = true)
    (g : (P.gs.all fun x => decide (P.cs.names.lookup x = some .globalImplicit) && !(x == ("__debug__" : Str))) = true) (n : P.vs.Nodup) : P.Ok := by
  refine ⟨k, fun x hx => ?_, fun x hx => ?_, n⟩
  · have z := Bool.and_eq_true_iff.mp (List.all_eq_true.mp v x hx)
    exact ⟨of_decide_eq_true z.1, by simpa using z.2⟩
  · have z := Bool.and_eq_true_iff.mp (List.all_eq_true.mp g x hx)
    exact ⟨of_decide_eq_true z.1, by simpa using z.2⟩
inductive Slot (x : Str) : Nat → List Str → Prop
  | hd {r} : Slot x 0 (x :: r)
  | tl {i y r} : Slot x i r → Slot x (i + 1) (y :: r)
theorem Slot.get {x : Str} {i : Nat} {l : List Str} (h : Slot x i l) : l[i]? = some x := by
  induction h with
  | hd => rfl
  | tl _ ih => exact ih
theorem Slot.mem {x : Str} {i : Nat} {l : List Str} (h : Slot x i l) : x ∈ l := by
  induction h with
  | hd => exact .head _
  | tl _ ih => exact .tail _ ih
noncomputable abbrev Loc := List (Option D)
-- the state behind the descriptions
structure LexSpec where
  at_ : Heap → List Addr → List Nat → List Str → Int → Prop
  keep : ∀ {h h' : Heap} {z : List Addr} {cs pb ln}, at_ h z cs pb ln → (∀ b ∈ z, ∀ o, h.get? b = some o → h'.get? b = some o) → at_ h' z cs pb ln
  live : ∀ {h : Heap} {z : List Addr} {cs pb ln}, at_ h z cs pb ln → ∀ b ∈ z, ∃ o, h.get? b = some o
  cit : Heap → List Addr → Zs → Nat → Bool → Prop
  ckeep : ∀ {h h' : Heap} {z : List Addr} {zs zs' : Zs} {i e}, cit h z zs i e → (∀ b ∈ z, ∀ o, h.get? b = some o → h'.get? b = some o) → (∀ (j : Nat) (r : List Addr), zs[j]? = some r → zs'[j]? = some r) → cit h' z zs' i e
  clive : ∀ {h : Heap} {z : List Addr} {zs i e}, cit h z zs i e → ∀ b ∈ z, ∃ o, h.get? b = some o
noncomputable def OIs (X : LexSpec) (zs : Zs) (W : List Addr) (h : Heap) (z : List Addr) : OD → Prop
  | .lst ds => ∃ a vs n, z = [a] ∧ h.get? a = some (listOf vs.toArray n) ∧ IsL zs W h ds vs
  | .lex cs pb ln => X.at_ h z cs pb ln
  | .cit i e => X.cit h z zs i e
structure EnvOk (env : Env) (P : Pm) (L : Addr) : Prop where
  sc : env.scope = P.cs
  lo : env.locals = L
  gl : env.globals = mainGlobals
  bi : env.builtins = builtinsNs
/-- the ledger -/
structure Lg (X : LexSpec) (zs : Zs) (W : List Addr) (h : Heap) (N : List OD) : Prop where
  nd : zs.flatten.Nodup
  sub : ∀ b ∈ zs.flatten, b ∈ W
  live : ∀ b ∈ W, ∃ o, h.get? b = some o
  len : N.length = zs.length
  obs : ∀ (i : Nat) (od : OD) (z : List Addr), N[i]? = some od → zs[i]? = some z → OIs X zs W h z od
structure St (X : LexSpec) (g : Heap) (L : Addr) (P : Pm) (zs : Zs) (W : List Addr) (h : Heap) (l : Loc) (N : List OD) : Prop where
  fr : ∃ m, Fr g L h m ∧ ∀ (i : Nat) (x : Str) (d : D), P.vs[i]? = some x → l[i]? = some (some d) → ∃ v, m x = some v ∧ Is zs W h d v
  off : ∀ b ∈ zs.flatten, b ≠ L ∧ g.get? b = none
  lg : Lg X zs W h N
section
variable {X : LexSpec} {g : Heap} {L : Addr} {P : Pm} {F : List Addr} {zs zs' : Zs} {W W' : List Addr} {h h' : Heap} {l : Loc} {N N' : List OD}
theorem OIs.per {z od} (x : Ex F zs W h zs' W' h') (hF : ∀ b ∈ F, b ∈ W ∨ NoSeq h b) (k : ∀ b ∈ z, ∀ o, h.get? b = some o → h'.get? b = some o) (i : OIs X zs W h z od) : OIs X zs' W' h' z od := by
  cases od with
  | lst ds => obtain ⟨a, vs, n, rfl, ha, hi⟩ := i; exact ⟨a, vs, n, rfl, k a (.head _) _ ha, hi.per x hF⟩
  | lex => exact X.keep i k
  | cit => exact X.ckeep i k fun j r e => by obtain ⟨⟨ws, rfl⟩, _⟩ := x; exact List.getElem?_append_left (List.getElem?_eq_some_iff.mp e).1 ▸ e
theorem OIs.live {z od} (i : OIs X zs W h z od) : ∀ b ∈ z, ∃ o, h.get? b = some o := by
  cases od with
  | lst ds => obtain ⟨a, vs, n, rfl, ha, _⟩ := i; exact List.forall_mem_singleton.mpr ⟨_, ha⟩
  | lex => exact X.live i
  | cit => exact X.clive i
theorem flat_live (len : N.length = zs.length) (obs : ∀ (i : Nat) (od : OD) (z : List Addr), N[i]? = some od → zs[i]? = some z → OIs X zs W h z od) : ∀ b ∈ zs.flatten, ∃ o, h.get? b = some o := fun b m => by
  obtain ⟨z, hz, hb⟩ := List.mem_flatten.mp m
  obtain ⟨i, hi, rfl⟩ := List.mem_iff_getElem.mp hz
  exact (obs i _ _ (List.getElem?_eq_getElem (len ▸ hi)) (List.getElem?_eq_getElem hi)).live b hb
theorem Lg.ext (S : Lg X zs W h N) (k : Sub h h') : Lg X zs W h' N :=
  ⟨S.nd, S.sub, fun b m => (S.live b m).imp fun o e => k b o e, S.len, fun i od z a b => (S.obs i od z a b).per (.ofSub k : Ex0 zs W h zs W h') (fun b m => .inl (S.sub b m)) fun b _ o e => k b o e⟩
/-- a new ledger behind a step that keeps all else -/
theorem Lg.step (S : Lg X zs W h N) (x : Ex F zs W h zs' W' h') (nd : zs'.flatten.Nodup) (sb : ∀ b ∈ zs'.flatten, b ∈ W') (hw : ∀ b ∈ W', b ∈ W ∨ b ∈ zs'.flatten) (len : N'.length = zs'.length)
    (obs : ∀ (i : Nat) (od : OD) (z : List Addr), N'[i]? = some od → zs'[i]? = some z → OIs X zs' W' h' z od) : Lg X zs' W' h' N' := by
  refine ⟨nd, sb, fun b m => ?_, len, obs⟩
  by_cases hz : b ∈ zs'.flatten
  · exact flat_live len obs b hz
  · rcases hw b m with q | q
    · obtain ⟨o, ho⟩ := S.live b q
      by_cases hf : b ∈ F
      · rcases x.lv b hf with m | ⟨_, m⟩
        · exact absurd (by obtain ⟨ws, e⟩ := x.pre; rw [e, List.flatten_append]; exact List.mem_append_left _ m) hz
        · exact m
      · exact ⟨o, x.kp b o hf ho⟩
    · exact absurd q hz
theorem St.per (S : St X g L P zs W h l N) (x : Ex0 zs W h zs' W' h') (G : Lg X zs' W' h' N') : St X g L P zs' W' h' l N' := by
  obtain ⟨⟨m, F, hl⟩, off, lg⟩ := S
  have kL : ∀ o, h.get? L = some o → h'.get? L = some o := fun o e => x.kp _ _ (fun m => (off L m).1 rfl) e
  refine ⟨⟨m, ⟨F.ns.at' kL, fun b o e => x.kp b o (fun m => by rw [(off b m).2] at e; cases e) (F.keep b o e), F.above⟩, fun i y d a b => ?_⟩, fun b m => ?_, G⟩
  · obtain ⟨v, hv, hi⟩ := hl i y d a b
    exact ⟨v, hv, hi.per0 x lg.sub⟩
  · rcases x.nw b m with q | q
    · exact off b q
    · refine ⟨fun e => ?_, ?_⟩
      · obtain ⟨o, _, _, ho, _⟩ := F.ns
        rw [e, ho] at q; cases q
      · cases hq : g.get? b with
        | none => rfl
        | some o => rw [F.keep b o hq] at q; cases q
theorem St.ext (S : St X g L P zs W h l N) (k : Sub h h') : St X g L P zs W h' l N := S.per (.ofSub k) (S.lg.ext k)
theorem St.sub (S : St X g L P zs W h l N) : Sub g h := let ⟨_, F, _⟩ := S.fr; F.keep
theorem St.noSeq (S : St X g L P zs W h l N) : ∀ b ∈ L :: zs.flatten, b ∈ W ∨ NoSeq h b := fun b m => by
  rcases List.mem_cons.mp m with rfl | m
  · obtain ⟨m, F, _⟩ := S.fr; obtain ⟨o, es, n, ho, hd, _⟩ := F.ns; exact .inr ⟨o, es, n, ho, hd⟩
  · exact .inl (S.lg.sub b m)
end
structure LexOk (prog : Program) (w : World) (X : LexSpec) (K : Frag) : Prop where
  ws : ∀ {A E g L h m z self r cs pb ln b Q ge dr tk os}, Fr g L h m → K.In g → X.at_ h z cs pb ln → 0 < ln → z = self :: r → (∀ t tk', Q (.str (Str.ofString "\n\t\r ") t) ⟨h, ge, dr, tk', os⟩) → wpAny (model prog w) A (getAttr (.ref self) (Str.ofString "whitespace") b) Q E ⟨h, ge, dr, tk, os⟩
  pbk : ∀ {A E g L h m z self r cs pb ln b Q ge dr tk os}, Fr g L h m → K.In g → X.at_ h z cs pb ln → 0 < ln → z = self :: r → (∀ a tk', z[1]? = some a → Q (.ref a) ⟨h, ge, dr, tk', os⟩) → wpAny (model prog w) A (getAttr (.ref self) (Str.ofString "pushback") b) Q E ⟨h, ge, dr, tk, os⟩
  lno : ∀ {A E g L h m z self r cs pb ln b Q ge dr tk os}, Fr g L h m → K.In g → X.at_ h z cs pb ln → 0 < ln → z = self :: r → (∀ t tk', Q (.int (ln - (cs.count 10 : Nat)) t) ⟨h, ge, dr, tk', os⟩) → wpAny (model prog w) A (getAttr (.ref self) (Str.ofString "lineno") b) Q E ⟨h, ge, dr, tk, os⟩
  tru : ∀ {A E h z a cs pb ln} {Q : Bool → Shared → Prop} {ge dr tk os}, X.at_ h z cs pb ln → 0 < ln → z[1]? = some a → (∀ tk', Q (!pb.isEmpty) ⟨h, ge, dr, tk', os⟩) → wpAny (model prog w) A (truthy (.ref a)) Q E ⟨h, ge, dr, tk, os⟩
  popM : ∀ {A E h z a cs pb ln pl Q ge dr tk os}, X.at_ h z cs pb ln → 0 < ln → z[1]? = some a → Q (.builtin "list.pop", [.ref a]) ⟨h, ge, dr, tk, os⟩ → wpAny (model prog w) A (getMethod (.ref a) (Str.ofString "pop") pl) Q E ⟨h, ge, dr, tk, os⟩
  popC : ∀ {A E h z a cs p pb ln t Q ge dr tk os}, X.at_ h z cs (p :: pb) ln → 0 < ln → z[1]? = some a → (∀ h' u tk', Keep z h h' → X.at_ h' z cs pb ln → Q (.str p u) ⟨h', ge, dr, tk', os⟩) → wpAny (model prog w) A (call (.builtin "list.pop") [.ref a, .int 0 t]) Q E ⟨h, ge, dr, tk, os⟩
  mth : ∀ {A E g L h m z self r cs pb ln f n pl Q ge dr tk os}, Fr g L h m → K.In g → X.at_ h z cs pb ln → 0 < ln → z = self :: r → (n, f) ∈ [(Str.ofString "get_token", 77), (Str.ofString "push_token", 84), (Str.ofString "_read_char", 70)] → Q (.ref f, [.ref self]) ⟨h, ge, dr, tk, os⟩ → wpAny (model prog w) A (getMethod (.ref self) n pl) Q E ⟨h, ge, dr, tk, os⟩

structure Cf where
  prog : Program
  w : World
  X : LexSpec
  K : Frag
  n : Nat
  B : Array GenState → Prop
structure Cf.Ok (c : Cf) : Prop where
  hK : KOk c.K
  HL : LexOk c.prog c.w c.X c.K
/-- where a body stands -/
structure Sx where
  A : Around
  env : Env
  g : Heap
  L : Addr
  P : Pm
  l : Loc
  dr : Drawn
  os : OsState
  zs : Zs
  W : List Addr
  h : Heap
  ge : Array GenState
  tk : Nat
noncomputable abbrev Sx.s (x : Sx) : Shared := ⟨x.h, x.ge, x.dr, x.tk, x.os⟩
noncomputable abbrev Sx.up (x : Sx) (zs : Zs) (W : List Addr) (h : Heap) (ge : Array GenState) (tk : Nat) : Sx := ⟨x.A, x.env, x.g, x.L, x.P, x.l, x.dr, x.os, zs, W, h, ge, tk⟩
structure Good (c : Cf) (x : Sx) (N : List OD) : Prop where
  R : Rm x.A c.n
  C : Cx c.K x.g
  E : EnvOk x.env x.P x.L
  ok : x.P.Ok
  S : St c.X x.g x.L x.P x.zs x.W x.h x.l N
  b : c.B x.ge
noncomputable abbrev Sx.Is (x : Sx) (d : D) (v : Value) : Prop := Mine.Is x.zs x.W x.h d v
noncomputable abbrev Sx.IsL (x : Sx) (ds : List D) (vs : List Value) : Prop := Mine.IsL x.zs x.W x.h ds vs
noncomputable abbrev Kt := D → List OD → Prop
inductive PE (c : Cf) (x : Sx) (k : Kt) (v : Value) (s' : Shared) : Prop
  | it (zs : Zs) (W : List Addr) (h : Heap) (ge : Array GenState) (tk : Nat) (d : D) (N : List OD) (e : s' = (x.up zs W h ge tk).s) (x0 : Ex0 x.zs x.W x.h zs W h) (G : Good c (x.up zs W h ge tk) N) (i : (x.up zs W h ge tk).Is d v) (hk : k d N)
noncomputable abbrev wpx (c : Cf) (x : Sx) {α : Type} (t : Sem α) (Q : α → Shared → Prop) : Prop := wpAny (model c.prog c.w) x.A t Q NoE x.s
section
variable {c : Cf} {x : Sx} {N : List OD} {k k1 : Kt}
theorem PE.lift {zs W h ge tk v s} (sb : ∀ b ∈ x.zs.flatten, b ∈ x.W) (e : Ex0 x.zs x.W x.h zs W h) (p : PE c (x.up zs W h ge tk) k v s) : PE c x k v s := by
  obtain ⟨zs', W', h', ge', tk', d, N', rfl, e', G, i, hk⟩ := p
  exact ⟨zs', W', h', ge', tk', d, N', rfl, e.trans sb e', G, i, hk⟩
theorem PE.bind {t : Sem Value} {R : Value → Shared → Prop} (p : wpx c x t (PE c x k1))
    (q : ∀ zs W h ge tk v d N, Ex0 x.zs x.W x.h zs W h → Good c (x.up zs W h ge tk) N → (x.up zs W h ge tk).Is d v → k1 d N → R v (x.up zs W h ge tk).s) : wpx c x t R :=
  wpAny_mono p (fun v s' z => let ⟨zs, W, h, ge, tk, d, N, e, e', G, i, hk⟩ := z; by rw [e]; exact q zs W h ge tk v d N e' G i hk) fun _ _ x => x
theorem PE.mk {d v} (G : Good c x N) (i : x.Is d v) (hk : k d N) : PE c x k v x.s := ⟨x.zs, x.W, x.h, x.ge, x.tk, d, N, rfl, .refl, G, i, hk⟩
theorem Good.ext (G : Good c x N) {h : Heap} {tk : Nat} (e : Sub x.h h) : Good c (x.up x.zs x.W h x.ge tk) N := ⟨G.R, G.C, G.E, G.ok, G.S.ext e, G.b⟩
theorem PE.mkS {d v} {h : Heap} {tk : Nat} (G : Good c x N) (e : Sub x.h h) (i : Is x.zs x.W h d v) (hk : k d N) : PE c x k v ⟨h, x.ge, x.dr, tk, x.os⟩ := ⟨x.zs, x.W, h, x.ge, tk, d, N, rfl, .ofSub e, G.ext e, i, hk⟩
theorem PE.mkT {d v} {tk : Nat} (G : Good c x N) (i : x.Is d v) (hk : k d N) : PE c x k v ⟨x.h, x.ge, x.dr, tk, x.os⟩ := .mkS G Sub.refl i hk
end
inductive PC (c : Cf) (zs : Zs) (W : List Addr) (h : Heap) (dr : Drawn) (os : OsState) (k : Kt) (v : Value) (s' : Shared) : Prop
  | mk (h' : Heap) (ge' : Array GenState) (tk' : Nat) (zs' : Zs) (W' : List Addr) (d : D) (N' : List OD) (e : s' = ⟨h', ge', dr, tk', os⟩) (b : c.B ge') (x0 : Ex0 zs W h zs' W' h') (lg : Lg c.X zs' W' h' N') (i : Is zs' W' h' d v) (hk : k d N')
/-- a function of the text, by what is known of its answers -/
noncomputable def CallOk (c : Cf) (f : Addr) (ds : List D) (N : List OD) (k : Kt) : Prop :=
  ∀ (A : Around) (B h : Heap) (zs : Zs) (W : List Addr) (ge : Array GenState) (dr : Drawn) (tk : Nat) (os : OsState) (vs : List Value), Rm A c.n → Cx c.K B → Sub B h → Lg c.X zs W h N → (∀ b ∈ zs.flatten, B.get? b = none) → c.B ge → IsL zs W h ds vs →
    codeAny (model c.prog c.w) A (.call (.ref f) ⟨vs, []⟩) (retR (PC c zs W h dr os k) NoE) ⟨h, ge, dr, tk, os⟩
theorem PE.ofPC {c : Cf} {x : Sx} {N : List OD} {k : Kt} {v s} (G : Good c x N) (p : PC c x.zs x.W x.h x.dr x.os k v s) : PE c x k v s := by
  obtain ⟨h', ge', tk', zs', W', d, N', rfl, hb, e, lg, i, hk⟩ := p
  exact ⟨zs', W', h', ge', tk', d, N', rfl, e, ⟨G.R, G.C, G.E, G.ok, G.S.per e lg, hb⟩, i, hk⟩
end

noncomputable section
theorem Is.int' {zs W h i v} (x : Is zs W h (.int i) v) : ∃ t, v = .int i t := by cases x; exact ⟨_, rfl⟩
theorem Is.str' {zs W h i v} (x : Is zs W h (.str i) v) : ∃ t, v = .str i t := by cases x; exact ⟨_, rfl⟩
theorem Is.flt' {zs W h i v} (x : Is zs W h (.flt i) v) : ∃ t, v = .float i t := by cases x; exact ⟨_, rfl⟩
theorem Is.bool' {zs W h i v} (x : Is zs W h (.bool i) v) : v = .bool i := by cases x; rfl
theorem Is.val' {zs W h i v} (x : Is zs W h (.val i) v) : v = i := by cases x; rfl
theorem Is.none' {zs W h v} (x : Is zs W h .none v) : v = .none := by cases x; rfl
theorem Is.lst' {zs W h ds v} (x : Is zs W h (.lst ds) v) : ∃ a vs, v = .ref a ∧ h.IsList a vs.toArray ∧ a ∉ W ∧ IsL zs W h ds vs := by cases x with | lst a b c d => exact ⟨_, _, rfl, a, b, c, d⟩
theorem Is.tup' {zs W h ds v} (x : Is zs W h (.tup ds) v) : ∃ a vs, v = .ref a ∧ h.IsTuple a vs.toArray ∧ a ∉ W ∧ IsL zs W h ds vs := by cases x with | tup a b c d => exact ⟨_, _, rfl, a, b, c, d⟩
theorem Is.ob' {zs W h i v} (x : Is zs W h (.ob i) v) : ∃ a r, v = .ref a ∧ zs[i]? = some (a :: r) := by cases x with | ob e => exact ⟨_, _, rfl, e⟩
theorem Is.sub' {zs W h i j v} (x : Is zs W h (.sub i j) v) : ∃ a z, v = .ref a ∧ zs[i]? = some z ∧ z[j]? = some a := by cases x with | sub e f => exact ⟨_, _, rfl, e, f⟩
theorem Is.rng' {zs W h a b v} (x : Is zs W h (.rng a b) v) : ∃ r t u w, v = .ref r ∧ IsRange h r a b 1 t u w ∧ r ∉ W := by cases x with | rng e f => exact ⟨_, _, _, _, rfl, e, f⟩
theorem get_new {h : Heap} : h.get? h.objs.size = none := by
  cases e : h.get? h.objs.size with
  | none => rfl
  | some o => exact absurd (Heap.lt_size e) (Nat.lt_irrefl _)
theorem sub_push {h : Heap} {o : Obj} : Sub h (h.push o) := fun _ _ e => Heap.get?_push_of_some _ e
section
variable {prog : Program} {w : World} {A : Around} {h : Heap} {ge : Array GenState} {dr : Drawn} {tk : Nat} {os : OsState}
theorem add_lists0 {l b : Addr} {vs ws : List Value} {Q : Value → Shared → Prop} {E : Value → Shared → Prop} (hl : h.IsList l vs.toArray) (hb : h.IsList b ws.toArray) (hsz : vs.length + ws.length ≤ sizeLine)
    (q : Q (.ref h.objs.size) ⟨h.push { cls := .type "list", data := .seq (vs ++ ws).toArray }, ge, dr, tk, os⟩) : wpAny (model prog w) A (binaryOp .Add (.ref l) (.ref b)) Q E ⟨h, ge, dr, tk, os⟩ := by
  obtain ⟨⟨cls, dd, data, sl⟩, ho, hc, n, hd⟩ := id hl
  obtain ⟨⟨cls2, dd2, data2, sl2⟩, ho2, hc2, n2, hd2⟩ := id hb
  simp only at hc hd hc2 hd2
  subst hc hd hc2 hd2
  refine concat_meets ⟨_, ho, rfl⟩ ⟨_, ho2, rfl⟩ noFill_list_add seq_list_add PySem.F.slot_list_add PySem.F.entry_list_add (PySem.F.args_list_add_2 _ _) (list_addW l b vs.toArray ws.toArray n n2 dd dd2 sl sl2 (by simpa using hsz)) ⟨ho, ho2, ?_⟩
  rw [show vs.toArray ++ ws.toArray = (vs ++ ws).toArray by simp]
  exact q
theorem tailS {value slice : Expr} {o i : Value} {Q : Value → Shared → Prop} {ops : List Value} {E : Value → Shared → Prop} (q : ItemOn (model prog w) A E o i Q ⟨h, ge, dr, tk, os⟩) (hs : subscripted slice false o i = operate ops (getItem o i)) : wpAny (model prog w) A (subscriptTail value slice o i) Q E ⟨h, ge, dr, tk, os⟩ := by
  obtain ⟨T, id, hl, hT, hg⟩ := q
  unfold subscriptTail
  refine wpAny_bind ?_
  rw [getitemInPython_of_ne hT.not_modules]
  refine wpAny_bind (wpAny_specialOf hT hl ?_)
  have fin : wpAny (model prog w) A (subscripted slice false o i) (fun r s₃ => wpAny (model prog w) A (letTemporaryGo value o r >>= fun _ => pure r) Q E s₃) E ⟨h, ge, dr, tk, os⟩ := by
    rw [hs]
    exact wpAny_operating (wpAny_mono hg (fun r s₃ h₃ => wpAny_bind (wpAny_letTemporaryGo (wpAny_pure h₃))) fun _ _ x => x)
  first
    | exact wpAny_pure (wpAny_bind fin)
    | exact wpAny_bind (wpAny_pure (wpAny_bind fin))
    | exact wpAny_bind fin
end
theorem fit_nat {n i : Nat} (h1 : n ≤ sizeLine) (h2 : i < n) : (i : Int) < 2 ^ 63 := by rw [sizeLine_eq] at h1; omega
section
variable {zs : Zs} {W : List Addr} {h : Heap}
theorem IsL.ints : ∀ {ns : List Int} {vs : List Value}, IsL zs W h (ns.map .int) vs → IntsAre vs ns
  | [], _, i => by rw [i.invNil]; exact .nil
  | n :: r, _, i => by obtain ⟨v, u, rfl, a, b⟩ := IsL.inv i; obtain ⟨_, rfl⟩ := a.int'; exact .cons _ _ b.ints
theorem IsL.strs : ∀ {ns : List Str} {vs : List Value}, IsL zs W h (ns.map .str) vs → StrsAre vs ns
  | [], _, i => by rw [i.invNil]; exact .nil
  | n :: r, _, i => by obtain ⟨v, u, rfl, a, b⟩ := IsL.inv i; obtain ⟨_, rfl⟩ := a.str'; exact .cons _ _ b.strs
end
theorem slPick_ee (vs : List Value) (i j : Nat) : slicePick vs.toArray (some (i : Int)) (some (j : Int)) none = ((vs.drop i).take (j - i)).toArray := by
  unfold slicePick sliceBounds
  simp only [Option.getD_none, show (1 : Int) > 0 by decide, if_true, clip_nat]
  rw [range_pick]
  have e := cut_min vs i j
  simpa using congrArg List.toArray e
theorem slPick_en (vs : List Value) (i : Nat) : slicePick vs.toArray (some (i : Int)) none none = (vs.drop i).toArray := by
  unfold slicePick sliceBounds
  simp only [Option.getD_none, show (1 : Int) > 0 by decide, if_true, clip_nat]
  rw [range_pick]
  have e := cut_min vs i vs.length
  rw [Nat.min_self] at e
  have e2 : (vs.drop i).take (vs.length - i) = vs.drop i := List.take_of_length_le (by simp)
  rw [e2] at e
  simpa using congrArg List.toArray e
theorem slPick_ne (vs : List Value) (j : Nat) : slicePick vs.toArray none (some (j : Int)) none = (vs.take j).toArray := by
  unfold slicePick sliceBounds
  simp only [Option.getD_none, show (1 : Int) > 0 by decide, if_true, clip_nat]
  rw [show (0 : Int) = ((0 : Nat) : Int) from rfl, range_pick]
  simp
section
variable {c : Cf} {x : Sx} {N : List OD} {k : Kt}
theorem Good.off_new (G : Good c x N) {a : Addr} (e : x.h.get? a = none) : a ∉ x.W := fun m => by
  obtain ⟨o, ho⟩ := G.S.lg.live a m; rw [e] at ho; cases ho
theorem mk_lst {ds vs h'} {tk : Nat} (G : Good c x N) (i : x.IsL ds vs) (k' : Sub x.h h') {a : Addr} {n : Nat} (ha : h'.get? a = some (listOf vs.toArray n)) (hn : x.h.get? a = none) (hk : k (.lst ds) N) : PE c x k (.ref a) ⟨h', x.ge, x.dr, tk, x.os⟩ := by
  have i' := i.per0 (.ofSub k' : Ex0 x.zs x.W x.h x.zs x.W h') G.S.lg.sub
  exact .mkS G k' (.lst ⟨_, ha, rfl, _, rfl⟩ (G.off_new hn) i'.1 i'.2) hk
theorem mk_tup {ds vs h'} {tk : Nat} (G : Good c x N) (i : x.IsL ds vs) (k' : Sub x.h h') {a : Addr} {n : Nat} (ha : h'.get? a = some { cls := .type "tuple", data := .seq vs.toArray n }) (hn : x.h.get? a = none) (hk : k (.tup ds) N) : PE c x k (.ref a) ⟨h', x.ge, x.dr, tk, x.os⟩ := by
  have i' := i.per0 (.ofSub k' : Ex0 x.zs x.W x.h x.zs x.W h') G.S.lg.sub
  exact .mkS G k' (.tup ⟨_, ha, rfl, _, rfl⟩ (G.off_new hn) i'.1 i'.2) hk
theorem Good.lstAt (G : Good c x N) {i : Nat} {ds : List D} {v : Value} (e : N[i]? = some (.lst ds)) (i' : x.Is (.ob i) v) : ∃ a vs n, v = .ref a ∧ x.zs[i]? = some [a] ∧ x.h.get? a = some (listOf vs.toArray n) ∧ x.IsL ds vs := by
  obtain ⟨b, r, rfl, hz⟩ := i'.ob'
  obtain ⟨a, vs, n, e2, ha, hi⟩ := G.S.lg.obs _ _ _ e hz
  obtain ⟨rfl, rfl⟩ := List.cons.inj e2
  exact ⟨_, vs, n, rfl, hz, ha, hi⟩
noncomputable def BinOk (c : Cf) (op : Operator) (a b : D) (N : List OD) (k : Kt) : Prop := ∀ (x : Sx) (va vb : Value), Good c x N → x.Is a va → x.Is b vb → wpx c x (binaryOp op va vb) (PE c x k)
noncomputable def InOk (c : Cf) (op : Operator) (a b : D) (N : List OD) (k : Kt) : Prop := ∀ (x : Sx) (va vb : Value), Good c x N → x.Is a va → x.Is b vb → wpx c x (inplaceOp op va vb) (PE c x k)
noncomputable def CmpOk (c : Cf) (op : CmpOp) (a b : D) (N : List OD) (k : Kt) : Prop := ∀ (x : Sx) (va vb : Value), Good c x N → x.Is a va → x.Is b vb → wpx c x (compareOp op va vb) (PE c x k)
theorem onII {a b : Int} {f : Value → Value → Sem Value} (q : ∀ (x : Sx) t u, Good c x N → wpx c x (f (.int a t) (.int b u)) (PE c x k)) (x : Sx) (va vb : Value) (G : Good c x N) (ia : x.Is (.int a) va) (ib : x.Is (.int b) vb) : wpx c x (f va vb) (PE c x k) := by
  obtain ⟨t, rfl⟩ := ia.int'; obtain ⟨u, rfl⟩ := ib.int'; exact q x t u G
theorem onSS {a b : Str} {f : Value → Value → Sem Value} (q : ∀ (x : Sx) t u, Good c x N → wpx c x (f (.str a t) (.str b u)) (PE c x k)) (x : Sx) (va vb : Value) (G : Good c x N) (ia : x.Is (.str a) va) (ib : x.Is (.str b) vb) : wpx c x (f va vb) (PE c x k) := by
  obtain ⟨t, rfl⟩ := ia.str'; obtain ⟨u, rfl⟩ := ib.str'; exact q x t u G
theorem onFF {a b : UInt64} {f : Value → Value → Sem Value} (q : ∀ (x : Sx) t u, Good c x N → wpx c x (f (.float a t) (.float b u)) (PE c x k)) (x : Sx) (va vb : Value) (G : Good c x N) (ia : x.Is (.flt a) va) (ib : x.Is (.flt b) vb) : wpx c x (f va vb) (PE c x k) := by
  obtain ⟨t, rfl⟩ := ia.flt'; obtain ⟨u, rfl⟩ := ib.flt'; exact q x t u G
theorem onFI {a : UInt64} {b : Int} {f : Value → Value → Sem Value} (q : ∀ (x : Sx) t u, Good c x N → wpx c x (f (.float a t) (.int b u)) (PE c x k)) (x : Sx) (va vb : Value) (G : Good c x N) (ia : x.Is (.flt a) va) (ib : x.Is (.int b) vb) : wpx c x (f va vb) (PE c x k) := by
  obtain ⟨t, rfl⟩ := ia.flt'; obtain ⟨u, rfl⟩ := ib.int'; exact q x t u G
namespace BinOk
variable {a b : Int} {s t : Str} {f g : UInt64}
theorem addI (hk : k (.int (a + b)) N) : BinOk c .Add (.int a) (.int b) N k := onII (fun x _ _ G => add_int (.mkT G .int hk))
theorem subI (hk : k (.int (a - b)) N) : BinOk c .Sub (.int a) (.int b) N k := onII (fun x _ _ G => PyProof.Rows.sub_int (.mkT G .int hk))
theorem mulI (h1 : IntMulOk a b) (hk : k (.int (a * b)) N) : BinOk c .Mult (.int a) (.int b) N k := onII (fun x _ _ G => PyProof.Rows.mul_int (.mkT G .int hk) h1)
theorem modI (h1 : b ≠ 0) (hk : k (.int (a.fmod b)) N) : BinOk c .Mod (.int a) (.int b) N k := onII (fun x _ _ G => mod_int' h1 (.mkT G .int hk))
theorem fdivI (h1 : b ≠ 0) (h2 : b.natAbs.log2 < 9000) (hk : k (.int (a.fdiv b)) N) : BinOk c .FloorDiv (.int a) (.int b) N k := onII (fun x _ _ G => floordiv_int h1 (.mkT G .int hk) (.inl (PyProof.noPylong_of_log2 h2)))
theorem divI (h1 : b ≠ 0) (h2 : ¬ Float64.isInf (Float64.ofFrac (decide (a < 0) != decide (b < 0)) a.natAbs b.natAbs) = true) (hk : k (.flt (Float64.ofFrac (decide (a < 0) != decide (b < 0)) a.natAbs b.natAbs)) N) : BinOk c .Div (.int a) (.int b) N k := onII (fun x _ _ G => AutoIntOps.truediv_2 (by simpa using h1) h2 (.mkT G .flt hk))
theorem addS (h1 : s.length + t.length ≤ sizeLine) (hk : k (.str (s ++ t)) N) : BinOk c .Add (.str s) (.str t) N k := onSS (fun x _ _ G => PyProof.Rows.add_str (fun t' tk' => .mkT G .str hk) h1)
theorem addL {u v : List D} (h1 : u.length + v.length ≤ sizeLine) (hk : k (.lst (u ++ v)) N) : BinOk c .Add (.lst u) (.lst v) N k := fun x _ _ G ia ib => by
  obtain ⟨_, _, rfl, ha, _, la⟩ := ia.lst'; obtain ⟨_, _, rfl, hb, _, lb⟩ := ib.lst'
  exact add_lists0 ha hb (by rw [la.1, lb.1]; exact h1) (mk_lst G (.append la lb) sub_push (Heap.get?_push_size _ rfl) get_new hk)
theorem addF (hk : k (.flt (Float64.add f g)) N) : BinOk c .Add (.flt f) (.flt g) N k := onFF (fun x _ _ G => add_float (.mkT G .flt hk))
theorem subF (hk : k (.flt (Float64.sub f g)) N) : BinOk c .Sub (.flt f) (.flt g) N k := onFF (fun x _ _ G => sub_float (.mkT G .flt hk))
theorem mulF (hk : k (.flt (Float64.mul f g)) N) : BinOk c .Mult (.flt f) (.flt g) N k := onFF (fun x _ _ G => mul_float (.mkT G .flt hk))
theorem divF (h1 : ¬ Float64.isZero g = true) (hk : k (.flt (Float64.div f g)) N) : BinOk c .Div (.flt f) (.flt g) N k := onFF (fun x _ _ G => AutoFloatOps.truediv_1 h1 (.mkT G .flt hk))
theorem modF (h1 : ¬ Float64.isZero g = true) (hk : k (.flt (Float64.divmod f g).2) N) : BinOk c .Mod (.flt f) (.flt g) N k := onFF (fun x _ _ G => AutoFloatOps.mod_1 h1 (.mkT G .flt hk))
theorem mulFI (h1 : b.natAbs < 2 ^ 1023) (hk : k (.flt (Float64.mul f (Float64.ofInt b))) N) : BinOk c .Mult (.flt f) (.int b) N k := onFI (fun x _ _ G => mul_fi_fits h1 (.mkT G .flt hk))
end BinOk
namespace InOk
variable {a b : Int} {s t : Str}
theorem addI (hk : k (.int (a + b)) N) : InOk c .Add (.int a) (.int b) N k := onII (fun x _ _ G => iadd_int (.mkT G .int hk))
theorem subI (hk : k (.int (a - b)) N) : InOk c .Sub (.int a) (.int b) N k := onII (fun x _ _ G => isub_int (.mkT G .int hk))
theorem addS (h1 : s.length + t.length ≤ sizeLine) (hk : k (.str (s ++ t)) N) : InOk c .Add (.str s) (.str t) N k := onSS (fun x _ _ G => PyProof.Rows.iadd_str (fun t' tk' => .mkT G .str hk) h1)
end InOk
namespace CmpOk
variable {a b : Int} {s t : Str} {f g : UInt64}
theorem eqI (hk : k (.bool (a == b)) N) : CmpOk c .Eq (.int a) (.int b) N k := onII (fun x _ _ G => eq_int (.mkT G .bool hk))
theorem neI (hk : k (.bool (a != b)) N) : CmpOk c .NotEq (.int a) (.int b) N k := onII (fun x _ _ G => ne_int (.mkT G .bool hk))
theorem ltI (hk : k (.bool (decide (a < b))) N) : CmpOk c .Lt (.int a) (.int b) N k := onII (fun x _ _ G => lt_int (.mkT G .bool hk))
theorem gtI (hk : k (.bool (decide (b < a))) N) : CmpOk c .Gt (.int a) (.int b) N k := onII (fun x _ _ G => gt_int (.mkT G .bool hk))
theorem eqS (hk : k (.bool (s == t)) N) : CmpOk c .Eq (.str s) (.str t) N k := onSS (fun x _ _ G => PyProof.Rows.eq_str (.mkT G .bool hk))
theorem inS (hk : k (.bool !(Builtin.Str.occurrences t s 0 t.length 1).isEmpty) N) : CmpOk c .In (.str s) (.str t) N k := onSS (fun x _ _ G => PyProof.Rows.in_str (.mkT G .bool hk))
theorem eqF (hk : k (.bool (Float64.cmp f g == some Ordering.eq)) N) : CmpOk c .Eq (.flt f) (.flt g) N k := onFF (fun x _ _ G => AutoFloatOps.eq_0 (.mkT G .bool hk))
theorem leF (hk : k (.bool (Float64.cmp f g == some Ordering.lt || Float64.cmp f g == some Ordering.eq)) N) : CmpOk c .LtE (.flt f) (.flt g) N k := onFF (fun x _ _ G => AutoFloatOps.le_0 (.mkT G .bool hk))
theorem gtF (hk : k (.bool (Float64.cmp f g == some Ordering.gt)) N) : CmpOk c .Gt (.flt f) (.flt g) N k := onFF (fun x _ _ G => AutoFloatOps.gt_0 (.mkT G .bool hk))
theorem neFI (hk : k (.bool (Float64.cmpInt f b != some Ordering.eq)) N) : CmpOk c .NotEq (.flt f) (.int b) N k := onFI (fun x _ _ G => ne_fi (.mkT G .bool hk))
theorem neL {i : Nat} {ns ms : List Int} (e : N[i]? = some (.lst (ns.map .int))) (hk : k (.bool (!decide (ns = ms))) N) : CmpOk c .NotEq (.ob i) (.lst (ms.map .int)) N k := fun x _ _ G ia ib => by
  obtain ⟨a, vs, n, rfl, hz, ha, hi⟩ := G.lstAt e ia
  obtain ⟨_, _, rfl, hb', _, lb⟩ := ib.lst'
  exact ne_intsK (s := x.s) ⟨_, ha, rfl, _, rfl⟩ hi.ints hb' lb.ints (by have := G.R.u; show x.A.units + 64 < 9900; omega) (.mkT G .bool hk)
end CmpOk
noncomputable def TruOk (c : Cf) (d : D) (N : List OD) (q : Bool → Prop) : Prop := ∀ (x : Sx) (v : Value) (Q : Bool → Shared → Prop), Good c x N → x.Is d v → (∀ t tk, q t → Q t (x.up x.zs x.W x.h x.ge tk).s) → wpx c x (truthy v) Q
theorem TruOk.bool {b : Bool} {q : Bool → Prop} (hk : q b) : TruOk c (.bool b) N q := fun x v Q G i hq => by rw [i.bool']; exact wpAny_truthy_bool (hq _ _ hk)
theorem Good.lexAt (G : Good c x N) {i j : Nat} {cs pb ln} {v : Value} (e : N[i]? = some (.lex cs pb ln)) (i' : x.Is (.sub i j) v) : ∃ z a, v = .ref a ∧ x.zs[i]? = some z ∧ z[j]? = some a ∧ c.X.at_ x.h z cs pb ln := by
  obtain ⟨a, z, rfl, hz, hj⟩ := i'.sub'
  exact ⟨_, _, rfl, hz, hj, G.S.lg.obs _ _ _ e hz⟩
theorem TruOk.pb (O : c.Ok) {i : Nat} {cs pb ln} {q : Bool → Prop} (e : N[i]? = some (.lex cs pb ln)) (h0 : 0 < ln) (hk : q (!pb.isEmpty)) : TruOk c (.sub i 1) N q := fun x v Q G i' hq => by
  obtain ⟨z, a, rfl, hz, hj, hx⟩ := G.lexAt e i'; exact O.HL.tru (ge := x.ge) (dr := x.dr) (os := x.os) (tk := x.tk) (Q := Q) hx h0 hj fun tk' => hq _ tk' hk
noncomputable def SeqOk (N : List OD) (d : D) (ds : List D) : Prop := d = .lst ds ∨ ∃ i, d = .ob i ∧ N[i]? = some (.lst ds)
theorem seqS {d : D} {v : Value} {ds : List D} (r : SeqOk N d ds) (G : Good c x N) (i : x.Is d v) : ∃ a vs, v = .ref a ∧ x.h.IsList a vs.toArray ∧ x.IsL ds vs := by
  rcases r with rfl | ⟨j, rfl, e⟩
  · obtain ⟨_, _, rfl, ha, _, la⟩ := i.lst'; exact ⟨_, _, rfl, ha, la⟩
  · obtain ⟨a, vs, n, rfl, hz, ha, hi⟩ := G.lstAt e i; exact ⟨a, vs, rfl, ⟨_, ha, rfl, _, rfl⟩, hi⟩
noncomputable def IdxOk (c : Cf) (a b : D) (N : List OD) (k : Kt) : Prop := ∀ (x : Sx) (va vb : Value) (value slice : Expr), Good c x N → x.Is a va → x.Is b vb → (∀ o i, subscripted slice false o i = operate [o, i] (getItem o i)) → wpx c x (subscriptTail value slice va vb) (PE c x k)
theorem IdxOk.tup {ds : List D} {i : Nat} {d : D} (h1 : ds.length ≤ sizeLine) (h2 : ds[i]? = some d) (hk : k d N) : IdxOk c (.tup ds) (.int i) N k := fun x va vb _ _ G ia ib hs => by
  obtain ⟨_, rfl⟩ := ib.int'; obtain ⟨a, vs, rfl, ha, _, la⟩ := ia.tup'
  obtain ⟨v, hv, hi⟩ := la.get h2
  have hlt := (List.getElem?_eq_some_iff.mp hv).1
  refine tailS ⟨"tuple", _, slot_tuple_getitem.lookup, Heap.IsTuple.typeIs (s := x.s) ha, ?_⟩ (hs _ _)
  exact PyProof.Rows.getItem_tuple (j := i) (s := x.s) ha (by omega) (fit_nat h1 (la.1 ▸ hlt)) (by unfold seqIndex?; simp [show ¬ ((i : Int) < 0) by omega, hlt]) (by simpa using hv) (.mk G hi hk)
theorem IdxOk.seq {s : D} {ds : List D} {i : Nat} {d : D} (r : SeqOk N s ds) (h1 : ds.length ≤ sizeLine) (h2 : ds[i]? = some d) (hk : k d N) : IdxOk c s (.int i) N k := fun x va vb _ _ G ia ib hs => by
  obtain ⟨_, rfl⟩ := ib.int'
  obtain ⟨a, vs, rfl, ha, hl⟩ := seqS r G ia
  obtain ⟨v, hv, hi⟩ := hl.get h2
  have hlt := (List.getElem?_eq_some_iff.mp hv).1
  refine tailS ⟨"list", _, slot_list_getitem.lookup, Heap.IsList.typeIs (s := x.s) ha, ?_⟩ (hs _ _)
  exact wpAny_getItem_list (s := x.s) ha (Int.natCast_nonneg _) (fit_nat h1 (hl.1 ▸ hlt)) (by simpa using hv) (.mk G hi hk)
theorem IdxOk.str {s : Str} {i : Nat} (h1 : i < s.length) (h2 : s.length ≤ sizeLine) (hk : k (.str (Txt.item s i)) N) : IdxOk c (.str s) (.int i) N k := fun x va vb _ _ G ia ib hs => by
  obtain ⟨_, rfl⟩ := ib.int'; obtain ⟨_, rfl⟩ := ia.str'
  refine tailS (SB.item ?_ ?_ (.mkT G .str hk)) (hs _ _)
  · have := fit_nat h2 h1
    unfold fitsSsize; simp; omega
  · exact charAt_isSome (by omega) (by omega)
noncomputable def SlOk (c : Cf) (a lo hi : D) (N : List OD) (k : Kt) : Prop := ∀ (x : Sx) (va vl vh : Value), Good c x N → x.Is a va → x.Is lo vl → x.Is hi vh → SlOn (model c.prog c.w) x.A NoE va vl vh (PE c x k) x.s
theorem slFin (G : Good c x N) {vl vh : Value} {a : Addr} {vs : List Value} {ds : List D} {lo' hi' : Option Int} {es : List D} {us : List Value} (ha : x.h.IsList a vs.toArray) (hl : x.IsL ds vs) (hsz : ds.length ≤ sizeLine) (p1 : IsPart vl lo') (p2 : IsPart vh hi') (e : slicePick vs.toArray lo' hi' none = us.toArray) (hi : x.IsL es us) (hk : k (.lst es) N) :
    SlOn (model c.prog c.w) x.A NoE (.ref a) vl vh (PE c x k) x.s := by
  have ha' := ha.push { cls := .type "slice", data := .fields #[vl, vh, .none] }
  refine ⟨"list", _, slot_list_getitem.lookup, Heap.IsList.typeIs (s := ⟨x.h.push _, x.ge, x.dr, x.tk, x.os⟩) ha', wpAny_getItem_list_slice (s := ⟨x.h.push _, x.ge, x.dr, x.tk, x.os⟩) ha' (Heap.IsSliceOf.new ..) p1 p2 .none (by simp) ?_ (by simpa [hl.1] using hsz)⟩
  rw [e]
  exact mk_lst G hi (sub_push.trans sub_push) (Heap.get?_push_size _ rfl) (by
    cases q : x.h.get? (x.h.push { cls := .type "slice", data := .fields #[vl, vh, .none] }).objs.size with
    | none => rfl
    | some o => exact absurd (Heap.lt_size q) (by rw [Heap.size_push]; exact Nat.not_lt.mpr (Nat.le_succ _))) hk
theorem SlOk.ne {s : D} {ds : List D} {j : Nat} (r : SeqOk N s ds) (hsz : ds.length ≤ sizeLine) (hk : k (.lst (ds.take j)) N) : SlOk c s .none (.int j) N k := fun x va vl vh G ia il ih => by
  rw [il.none']; obtain ⟨_, rfl⟩ := ih.int'; obtain ⟨a, vs, rfl, ha, hl⟩ := seqS r G ia; exact slFin G ha hl hsz .none (.int _ _) (slPick_ne _ _) (hl.take _) hk
theorem SlOk.en {s : D} {ds : List D} {i : Nat} (r : SeqOk N s ds) (hsz : ds.length ≤ sizeLine) (hk : k (.lst (ds.drop i)) N) : SlOk c s (.int i) .none N k := fun x va vl vh G ia il ih => by
  rw [ih.none']; obtain ⟨_, rfl⟩ := il.int'; obtain ⟨a, vs, rfl, ha, hl⟩ := seqS r G ia; exact slFin G ha hl hsz (.int _ _) .none (slPick_en _ _) (hl.drop _) hk
theorem SlOk.ee {s : D} {ds : List D} {i j : Nat} (r : SeqOk N s ds) (hsz : ds.length ≤ sizeLine) (hk : k (.lst ((ds.drop i).take (j - i))) N) : SlOk c s (.int i) (.int j) N k := fun x va vl vh G ia il ih => by
  obtain ⟨_, rfl⟩ := il.int'; obtain ⟨_, rfl⟩ := ih.int'; obtain ⟨a, vs, rfl, ha, hl⟩ := seqS r G ia; exact slFin G ha hl hsz (.int _ _) (.int _ _) (slPick_ee _ _ _) ((hl.drop _).take _) hk
end
end

noncomputable section
noncomputable abbrev EvT := Cf → Loc → List OD → Kt → Prop
noncomputable abbrev ArT := Cf → Loc → List OD → (List D → List OD → Prop) → Prop
noncomputable abbrev CdT := Cf → Loc → List OD → (Bool → List OD → Prop) → Prop
noncomputable def locV (d : Option (Option D)) (k : D → Prop) : Prop := match d with
  | some (some d) => k d
  | _ => False
inductive PA (c : Cf) (x : Sx) (k : List D → List OD → Prop) (vs : List Value) (s' : Shared) : Prop
  | mk (zs : Zs) (W : List Addr) (h : Heap) (ge : Array GenState) (tk : Nat) (ds : List D) (N : List OD) (e : s' = (x.up zs W h ge tk).s) (x0 : Ex0 x.zs x.W x.h zs W h) (G : Good c (x.up zs W h ge tk) N) (i : (x.up zs W h ge tk).IsL ds vs) (hk : k ds N)
inductive PB (c : Cf) (x : Sx) (k : Bool → List OD → Prop) (b : Bool) (s' : Shared) : Prop
  | mk (zs : Zs) (W : List Addr) (h : Heap) (ge : Array GenState) (tk : Nat) (N : List OD) (e : s' = (x.up zs W h ge tk).s) (x0 : Ex0 x.zs x.W x.h zs W h) (G : Good c (x.up zs W h ge tk) N) (hk : k b N)
noncomputable def Snd (c : Cf) (P : Pm) (e : Expr) (t : EvT) : Prop := ∀ (x : Sx) (N : List OD) (k : Kt), Good c x N → x.P = P → t c x.l N k → wpx c x (eval e x.env) (PE c x k)
noncomputable def SndA (c : Cf) (P : Pm) (es : List Expr) (t : ArT) : Prop := ∀ (x : Sx) (N : List OD) (pos : Pos) (k : List D → List OD → Prop), Good c x N → x.P = P → t c x.l N k → wpx c x (spliced (backTo pos (starEach es x.env))) (PA c x k)
noncomputable def SndC (c : Cf) (P : Pm) (e : Expr) (t : CdT) : Prop := ∀ (x : Sx) (N : List OD) (k : Bool → List OD → Prop), Good c x N → x.P = P → t c x.l N k → wpx c x (isTrue e x.env (eval e x.env)) (PB c x k)
noncomputable def FnOk (c : Cf) (f : Value) (ds : List D) (N : List OD) (k : Kt) : Prop := ∀ (x : Sx) (vs : List Value), Good c x N → x.IsL ds vs → wpx c x (call f vs) (PE c x k)
noncomputable def GetOk (c : Cf) (d : D) (n : Str) (N : List OD) (f : Value) : Prop := ∀ (x : Sx) (v : Value) (pl : Sem Bool) (Q : Value × List Value → Shared → Prop), Good c x N → x.Is d v → Q (f, [v]) x.s → wpx c x (getMethod v n pl) Q
noncomputable def AttOk (c : Cf) (d : D) (n : Str) (N : List OD) (k : Kt) : Prop := ∀ (x : Sx) (v : Value) (b : Bool), Good c x N → x.Is d v → wpx c x (getAttr v n b) (PE c x k)
noncomputable def eLoc (i : Nat) : EvT := fun c l N k => locV l[i]? fun d => k d N
noncomputable def eCst (d : D) : EvT := fun c _ N k => k d N
noncomputable def eBin (op : Operator) (a b : EvT) : EvT := fun c l N k => a c l N fun x N => b c l N fun y N => BinOk c op x y N k
noncomputable def eCmp (op : CmpOp) (a b : EvT) : EvT := fun c l N k => a c l N fun x N => b c l N fun y N => CmpOk c op x y N k
noncomputable def eIte (t : CdT) (a b : EvT) : EvT := fun c l N k => t c l N fun t N => cond t (a c l N k) (b c l N k)
noncomputable def aNil : ArT := fun c _ N k => k [] N
noncomputable def aCons (a : EvT) (r : ArT) : ArT := fun c l N k => a c l N fun x N => r c l N fun xs N => k (x :: xs) N
noncomputable def eCall (f : Value) (r : ArT) : EvT := fun c l N k => r c l N fun ds N => FnOk c f ds N k
noncomputable def eMeth (f : Value) (o : EvT) (n : Str) (r : ArT) : EvT := fun c l N k => o c l N fun x N => GetOk c x n N f ∧ r c l N fun ds N => FnOk c f (x :: ds) N k
noncomputable def eAtt (o : EvT) (n : Str) : EvT := fun c l N k => o c l N fun x N => AttOk c x n N k
noncomputable def eIdx (a b : EvT) : EvT := fun c l N k => a c l N fun x N => b c l N fun y N => IdxOk c x y N k
noncomputable def eSl (a lo hi : EvT) : EvT := fun c l N k => a c l N fun x N => lo c l N fun i N => hi c l N fun j N => SlOk c x i j N k
noncomputable def eMkl (r : ArT) : EvT := fun c l N k => r c l N fun ys N => ys.length ≤ sizeLine ∧ k (.lst ys) N
noncomputable def eMkt (r : ArT) : EvT := fun c l N k => r c l N fun ys N => ys.length ≤ sizeLine ∧ k (.tup ys) N
noncomputable def eNew : EvT := fun c _ N k => k (.ob N.length) (N ++ [.lst []])
noncomputable def tVal (a : EvT) : CdT := fun c l N k => a c l N fun x N => TruOk c x N fun t => k t N
noncomputable def tNot (a : CdT) : CdT := fun c l N k => a c l N fun t N => k (!t) N
noncomputable def tOr (a b : CdT) : CdT := fun c l N k => a c l N fun t N => cond t (k true N) (b c l N k)
section
variable {c : Cf} {P : Pm} {a b e lo hi : Expr} {s t u : EvT} {pos : Pos}
theorem up_lift {x : Sx} {N : List OD} {k : Kt} (G : Good c x N) {m : Sem Value} {zs W h ge tk} (e : Ex0 x.zs x.W x.h zs W h) (p : wpx c (x.up zs W h ge tk) m (PE c (x.up zs W h ge tk) k)) : wpx c (x.up zs W h ge tk) m (PE c x k) :=
  wpAny_mono p (fun _ _ z => z.lift G.S.lg.sub e) fun _ _ z => z
theorem Snd.two {f : Value → Value → Sem Value} {sh : Sem Value → Sem Value → Sem Value} {k0 : D → D → List OD → Kt → Prop} (ha : Snd c P a s) (hb : Snd c P b t) {x : Sx} {N : List OD} {k : Kt} (G : Good c x N) (hP : x.P = P)
    (hk : s c x.l N fun p N => t c x.l N fun q N => k0 p q N k) (op : ∀ (y : Sx) va vb p q N, Good c y N → y.Is p va → y.Is q vb → k0 p q N k → wpx c y (f va vb) (PE c y k)) :
    wpx c x (eval a x.env) (fun va s₁ => wpAny (model c.prog c.w) x.A (eval b x.env) (fun vb s₂ => wpAny (model c.prog c.w) x.A (f va vb) (PE c x k) NoE s₂) NoE s₁) := by
  refine PE.bind (ha x N _ G hP hk) fun zs W h ge tk va d N1 e1 G1 i1 h1 => ?_
  refine PE.bind (hb _ N1 _ G1 hP h1) fun zs2 W2 h2 ge2 tk2 vb d2 N2 e2 G2 i2 h3 => ?_
  exact up_lift G (e1.trans G.S.lg.sub e2) (op _ _ _ _ _ _ G2 (i1.per0 e2 G1.S.lg.sub) i2 h3)
theorem Snd.cint {i : Int} {k : Nat} : Snd c P (.Constant (.int i) k pos) (eCst (.int i)) := fun x N k G _ h => wpAny_Constant_int (.mkT G .int h)
theorem Snd.cstr {i : Str} {k : Nat} : Snd c P (.Constant (.str i) k pos) (eCst (.str i)) := fun x N k G _ h => wpAny_Constant_str (.mkT G .str h)
theorem Snd.cnone {k : Nat} : Snd c P (.Constant .none k pos) (eCst .none) := fun x N k G _ h => wpAny_Constant_none (.mkT G .none h)
theorem Snd.cbool {b : Bool} {k : Nat} : Snd c P (.Constant (.bool b) k pos) (eCst (.bool b)) := fun x N k G _ h => wpAny_Constant_bool (.mkT G .bool h)
theorem Snd.cflt {b : UInt64} {k : Nat} : Snd c P (.Constant (.float b) k pos) (eCst (.flt b)) := fun x N k G _ h => wpAny_Constant_float (.mkT G .flt h)
theorem Snd.loc {n : Str} {i : Nat} (hs : Slot n i P.vs) : Snd c P (.Name n pos) (eLoc i) := fun x N k G hP h => by
  subst hP
  unfold eLoc locV at h
  split at h
  · rename_i d hd
    obtain ⟨m, F, hl⟩ := G.S.fr
    obtain ⟨v, hv, hi⟩ := hl i n d hs.get hd
    have z := G.ok.v n hs.mem
    have E := G.E
    exact wpAny_Name (wpAny_loadName_local (by rw [E.sc]; exact G.ok.k) (by show x.env.scope.names.lookup n = _; rw [E.sc]; exact z.1) (by rw [E.lo]; exact F.ns) hv (.mk G hi h)) z.2
  · exact h.elim
theorem Good.glob {x : Sx} {N : List OD} (G : Good c x N) {n : Str} {i : Nat} (hs : Slot n i x.P.gs) {v : Value} {Q : Value → Shared → Prop} (hv : wpx c x (loadGlobal x.env n) Q) : wpx c x (eval (.Name n pos) x.env) Q := by
  have z := G.ok.g n hs.mem
  exact Name_function_global (by rw [G.E.sc]; exact G.ok.k) (by show x.env.scope.names.lookup n = _; rw [G.E.sc]; exact z.1) hv z.2
theorem Snd.globV (O : c.Ok) {n : Str} {i : Nat} {v : Value} {d : D} (hs : Slot n i P.gs) (e : At n (some v) globTab) (hi : ∀ zs W h, Is zs W h d v) : Snd c P (.Name n pos) (eCst d) := fun x N k G hP h => by
  subst hP
  obtain ⟨m, F, hl⟩ := G.S.fr
  obtain ⟨_, _, _, _, _, T⟩ := G.C.T
  exact G.glob (v := v) hs (loadGlobal_global (env := x.env) (by rw [G.E.gl]; exact (topRead_of T).g.keeps F.keep) (mg_of G.C.X (topRead_of T).g (O.hK.glob e)) (.mk G (hi _ _ _) h))
theorem Snd.glo (O : c.Ok) {n : Str} {i : Nat} {v : Value} (hs : Slot n i P.gs) (e : At n (some v) globTab) : Snd c P (.Name n pos) (eCst (.val v)) := .globV O hs e fun _ _ _ => .val
theorem Snd.blt (O : c.Ok) {n : Str} {i : Nat} {v : Value} (hs : Slot n i P.gs) (e : At n none globTab) (hv : At n v bootTab) : Snd c P (.Name n pos) (eCst (.val v)) := fun x N k G hP h => by
  subst hP
  obtain ⟨m, F, hl⟩ := G.S.fr
  obtain ⟨_, _, _, _, _, T⟩ := G.C.T
  have b := boot_tab hv
  exact G.glob (v := v) hs (loadGlobal_builtin (env := x.env) (by rw [G.E.gl]; exact (topRead_of T).g.keeps F.keep) (mg_none_of G.C.X (topRead_of T).g (O.hK.glob e)) (by rw [G.E.bi]; exact (topRead_of T).b.keeps F.keep) (((topRead_of T).builtins n b.2).trans b.1) (.mk G .val h))
theorem Snd.bin {op : Operator} (ha : Snd c P a s) (hb : Snd c P b t) : Snd c P (.BinOp a op b pos) (eBin op s t) := fun x N k G hP h =>
  wpAny_BinOp (Snd.two (sh := fun a _ => a) ha hb G hP h fun y va vb p q N G i j hk => hk y va vb G i j)
theorem Snd.cmp {op : CmpOp} (ha : Snd c P a s) (hb : Snd c P b t) (hm : behindInMarks op b = false) : Snd c P (.Compare a [op] [b] pos) (eCmp op s t) := fun x N k G hP h =>
  wpAny_Compare1 (Snd.two (sh := fun a _ => a) ha hb G hP h fun y va vb p q N G i j hk => hk y va vb G i j) hm
theorem Snd.idx (ha : Snd c P a s) (hb : Snd c P b t) (hs : ∀ o i, subscripted b false o i = operate [o, i] (getItem o i)) : Snd c P (.Subscript a b pos) (eIdx s t) := fun x N k G hP h =>
  Subscript_ (Snd.two (sh := fun a _ => a) ha hb G hP h fun y va vb p q N G i j hk => hk y va vb a b G i j hs)
theorem PA.bind {x : Sx} {k1 : List D → List OD → Prop} {t : Sem (List Value)} {R : List Value → Shared → Prop} (p : wpx c x t (PA c x k1))
    (q : ∀ zs W h ge tk vs ds N, Ex0 x.zs x.W x.h zs W h → Good c (x.up zs W h ge tk) N → (x.up zs W h ge tk).IsL ds vs → k1 ds N → R vs (x.up zs W h ge tk).s) : wpx c x t R :=
  wpAny_mono p (fun v s' z => let ⟨zs, W, h, ge, tk, d, N, e, e', G, i, hk⟩ := z; by rw [e]; exact q zs W h ge tk v d N e' G i hk) fun _ _ x => x
theorem PB.bind {x : Sx} {k1 : Bool → List OD → Prop} {t : Sem Bool} {R : Bool → Shared → Prop} (p : wpx c x t (PB c x k1))
    (q : ∀ zs W h ge tk b N, Ex0 x.zs x.W x.h zs W h → Good c (x.up zs W h ge tk) N → k1 b N → R b (x.up zs W h ge tk).s) : wpx c x t R :=
  wpAny_mono p (fun v s' z => let ⟨zs, W, h, ge, tk, N, e, e', G, hk⟩ := z; by rw [e]; exact q zs W h ge tk v N e' G hk) fun _ _ x => x
theorem upB_lift {x : Sx} {N : List OD} {k : Bool → List OD → Prop} (G : Good c x N) {m : Sem Bool} {zs W h ge tk} (e : Ex0 x.zs x.W x.h zs W h) (p : wpx c (x.up zs W h ge tk) m (PB c (x.up zs W h ge tk) k)) : wpx c (x.up zs W h ge tk) m (PB c x k) :=
  wpAny_mono p (fun _ _ ⟨zs', W', h', ge', tk', N', r, e', G', hk⟩ => ⟨zs', W', h', ge', tk', N', r, e.trans G.S.lg.sub e', G', hk⟩) fun _ _ z => z
theorem cond_elim {b : Bool} {p q : Prop} (h : cond b p q) : (b = true → p) ∧ (b = false → q) := by cases b <;> simp_all
theorem SndC.val (ha : Snd c P a s) (he : ∀ env whole, isTrue a env whole = (do let v ← whole; standAt a.pos; holding [v] (truthy v))) : SndC c P a (tVal s) := fun x N k G hP h => by
  rw [he]
  refine wpAny_bind (PE.bind (ha x N _ G hP h) fun zs W h ge tk v d N e G i hk => ?_)
  exact wpAny_bind (wpAny_standAt (wpAny_holding (hk _ v _ G i fun t tk' q => ⟨zs, W, h, ge, tk', N, rfl, e, ⟨G.R, G.C, G.E, G.ok, G.S, G.b⟩, q⟩)))
theorem SndC.cmp {op : CmpOp} (ha : Snd c P a s) (hb : Snd c P b t) (hm : behindInMarks op b = false) : SndC c P (.Compare a [op] [b] pos) (tVal (eCmp op s t)) := fun x N k G hP h => by
  refine wpAny_isTrue_Compare1 ?_ hm
  have z := Snd.two (f := compareOp op) (sh := fun a _ => a) (k := fun d N => TruOk c d N fun t => k t N) (k0 := fun p q N k => CmpOk c op p q N k) ha hb G hP h fun y va vb p q N G i j hk => hk y va vb G i j
  refine wpAny_mono z (fun va s₁ h₁ => wpAny_mono h₁ (fun vb s₂ h₂ => wpAny_mono h₂ (fun v s₃ h₃ => ?_) fun _ _ x => x) fun _ _ x => x) fun _ _ x => x
  obtain ⟨zs, W, h, ge, tk, d, N, rfl, e, G, i, hk⟩ := h₃
  exact hk _ v _ G i fun t tk' q => ⟨zs, W, h, ge, tk', N, rfl, e, ⟨G.R, G.C, G.E, G.ok, G.S, G.b⟩, q⟩
theorem SndC.nt {u : CdT} (ha : SndC c P a u) : SndC c P (.UnaryOp .Not a pos) (tNot u) := fun x N k G hP h =>
  wpAny_isTrue_Not (PB.bind (ha x N _ G hP h) fun zs W h ge tk b N e G hk => ⟨zs, W, h, ge, tk, N, rfl, e, G, hk⟩)
theorem SndC.or {u v : CdT} (ha : SndC c P a u) (hb : SndC c P b v) : SndC c P (.BoolOp .Or [a, b] pos) (tOr u v) := fun x N k G hP h => by
  refine wpAny_isTrue_BoolOp (wpAny_allTrue_Or_cons (PB.bind (ha x N _ G hP h) fun zs W h ge tk t N1 e G1 hk => ?_))
  cases t with
  | true => exact ⟨zs, W, h, ge, tk, N1, rfl, e, G1, hk⟩
  | false =>
    refine wpAny_allTrue_Or_cons (PB.bind (hb _ N1 _ G1 hP hk) fun zs2 W2 h2 ge2 tk2 t N2 e2 G2 hk2 => ?_)
    have z : PB c x k t ((x.up zs W h ge tk).up zs2 W2 h2 ge2 tk2).s := ⟨zs2, W2, h2, ge2, tk2, N2, rfl, e.trans G.S.lg.sub e2, G2, hk2⟩
    cases t with
    | true => exact z
    | false => exact wpAny_allTrue_Or_nil z
theorem Snd.ite {u : CdT} {cc : Expr} (hc : SndC c P cc u) (ha : Snd c P a s) (hb : Snd c P b t) : Snd c P (.IfExp cc a b pos) (eIte u s t) := fun x N k G hP h => by
  refine wpAny_IfExp (PB.bind (hc x N _ G hP h) fun zs W h ge tk t N1 e G1 hk => ?_)
  cases t with
  | true => exact up_lift G e (ha _ N1 _ G1 hP hk)
  | false => exact up_lift G e (hb _ N1 _ G1 hP hk)
theorem SndA.nil : SndA c P [] aNil := fun x N pos k G hP h => args_nil ⟨x.zs, x.W, x.h, x.ge, x.tk, [], N, rfl, .refl, G, .nil, h⟩
theorem SndA.cons {r : List Expr} {u : ArT} (ha : Snd c P a s) (hr : SndA c P r u) (he : ∀ env, starEach (a :: r) env = (false, eval a env) :: starEach r env) : SndA c P (a :: r) (aCons s u) := fun x N pos k G hP h => by
  refine args_cons (PE.bind (ha x N _ G hP h) fun zs W h ge tk v d N1 e G1 i hk => ?_) (he _)
  refine PA.bind (hr _ N1 pos _ G1 hP hk) fun zs2 W2 h2 ge2 tk2 vs ds N2 e2 G2 il hk2 => ?_
  exact ⟨zs2, W2, h2, ge2, tk2, d :: ds, N2, rfl, e.trans G.S.lg.sub e2, G2, .cons (i.per0 e2 G1.S.lg.sub) il, hk2⟩
theorem Snd.mkl {es : List Expr} {u : ArT} (he : SndA c P es u) : Snd c P (.List es pos) (eMkl u) := fun x N k G hP h =>
  wpAny_List (PA.bind (he x N pos _ G hP h) fun zs W h ge tk vs ds N1 e G1 il hk =>
    ⟨by rw [il.1]; exact hk.1, (mk_lst (k := k) G1 il sub_push (Heap.get?_push_size _ rfl) get_new hk.2).lift G.S.lg.sub e⟩)
theorem Snd.mkt {es : List Expr} {u : ArT} {n : Nat} (he : SndA c P es u) : Snd c P (.Tuple es n pos) (eMkt u) := fun x N k G hP h =>
  wpAny_Tuple (PA.bind (he x N pos _ G hP h) fun zs W h ge tk vs ds N1 e G1 il hk =>
    ⟨by rw [il.1]; exact hk.1, (mk_tup (k := k) G1 il sub_push (Heap.get?_push_size _ rfl) get_new hk.2).lift G.S.lg.sub e⟩)
theorem Snd.att {n : Str} (ha : Snd c P a s) (hb : ∀ env, attributeBase a n env (eval a env) = eval a env) : Snd c P (.Attribute a n pos) (eAtt s n) := fun x N k G hP h => by
  rw [arm_eval_Attribute, hb]
  refine wpAny_bind (PE.bind (ha x N _ G hP h) fun zs W h ge tk v d N1 e G1 i hk => ?_)
  refine wpAny_bind (wpAny_standAt (wpAny_bind (wpAny_holding ?_)))
  exact wpAny_mono (hk _ v true G1 i) (fun r s₁ z => wpAny_bind (wpAny_letTemporaryGo (wpAny_pure (z.lift G.S.lg.sub e)))) fun _ _ z => z
theorem slTail {x : Sx} {N : List OD} {k : Kt} {va vl vh : Value} {value : Expr} {l1 h1 : Option Expr} {p : Pos} (q : SlOn (model c.prog c.w) x.A NoE va vl vh (PE c x k) x.s) :
    wpAny (model c.prog c.w) x.A (subscriptTail value (.Slice l1 h1 none p) va (.ref x.h.objs.size)) (PE c x k) NoE ⟨x.h.push { cls := .type "slice", data := .fields #[vl, vh, .none] }, x.ge, x.dr, x.tk, x.os⟩ := tailS (ops := [.ref x.h.objs.size, va]) q rfl
theorem slPost {x : Sx} {N : List OD} {k : Kt} (G : Good c x N) {m : Sem Value} {zs W h ge tk s} (e : Ex0 x.zs x.W x.h zs W h) (p : wpAny (model c.prog c.w) x.A m (PE c (x.up zs W h ge tk) k) NoE s) : wpAny (model c.prog c.w) x.A m (PE c x k) NoE s :=
  wpAny_mono p (fun _ _ z => z.lift G.S.lg.sub e) fun _ _ z => z
theorem Snd.see (ha : Snd c P a s) (hl : Snd c P lo t) (hh : Snd c P hi u) {p : Pos} : Snd c P (.Subscript a (.Slice (some lo) (some hi) none p) pos) (eSl s t u) := fun x N k G hP h => by
  refine Subscript_ (PE.bind (ha x N _ G hP h) fun zs W h ge tk va d N1 e1 G1 i1 k1 => wpAny_Slice ?_)
  refine PE.bind (hl _ N1 _ G1 hP k1) fun zs2 W2 h2 ge2 tk2 vl d2 N2 e2 G2 i2 k2 => ?_
  refine PE.bind (hh _ N2 _ G2 hP k2) fun zs3 W3 h3 ge3 tk3 vh d3 N3 e3 G3 i3 k3 => wpAny_pure ?_
  exact slPost G ((e1.trans G.S.lg.sub e2).trans G.S.lg.sub e3) (slTail (x := (((x.up zs W h ge tk).up zs2 W2 h2 ge2 tk2).up zs3 W3 h3 ge3 tk3)) (N := N3) (k3 _ _ _ _ G3 ((i1.per0 e2 G1.S.lg.sub).per0 e3 G2.S.lg.sub) (i2.per0 e3 G2.S.lg.sub) i3))
theorem Snd.sen (ha : Snd c P a s) (hl : Snd c P lo t) {p : Pos} : Snd c P (.Subscript a (.Slice (some lo) none none p) pos) (eSl s t (eCst .none)) := fun x N k G hP h => by
  refine Subscript_ (PE.bind (ha x N _ G hP h) fun zs W h ge tk va d N1 e1 G1 i1 k1 => wpAny_Slice ?_)
  refine PE.bind (hl _ N1 _ G1 hP k1) fun zs2 W2 h2 ge2 tk2 vl d2 N2 e2 G2 i2 k2 => wpAny_pure (wpAny_pure ?_)
  exact slPost G (e1.trans G.S.lg.sub e2) (slTail (x := ((x.up zs W h ge tk).up zs2 W2 h2 ge2 tk2)) (N := N2) (k2 _ _ _ _ G2 (i1.per0 e2 G1.S.lg.sub) i2 .none))
theorem Snd.sne (ha : Snd c P a s) (hh : Snd c P hi u) {p : Pos} : Snd c P (.Subscript a (.Slice none (some hi) none p) pos) (eSl s (eCst .none) u) := fun x N k G hP h => by
  refine Subscript_ (PE.bind (ha x N _ G hP h) fun zs W h ge tk va d N1 e1 G1 i1 k1 => wpAny_Slice (wpAny_pure ?_))
  refine PE.bind (hh _ N1 _ G1 hP k1) fun zs2 W2 h2 ge2 tk2 vh d2 N2 e2 G2 i2 k2 => wpAny_pure ?_
  exact slPost G (e1.trans G.S.lg.sub e2) (slTail (x := ((x.up zs W h ge tk).up zs2 W2 h2 ge2 tk2)) (N := N2) (k2 _ _ _ _ G2 (i1.per0 e2 G1.S.lg.sub) .none i2))
noncomputable def eAnd (a b : EvT) : EvT := fun c l N k => a c l N fun x N => TruOk c x N fun t => cond t (b c l N k) (k x N)
theorem Snd.and1 {e : Expr} (ha : Snd c P e s) : Snd c P (.BoolOp .And [e] pos) s := fun x N k G hP h => BoolOp_one (ha x N k G hP h)
theorem Snd.and {r : List Expr} (ha : Snd c P a s) (hb : Snd c P (.BoolOp .And (b :: r) pos) t) : Snd c P (.BoolOp .And (a :: b :: r) pos) (eAnd s t) := fun x N k G hP h => by
  refine BoolOp_and (PE.bind (ha x N _ G hP h) fun zs W h ge tk v d N e G1 i hk => hk _ v _ G1 i fun t tk' q => ?_)
  have G1' : Good c (x.up zs W h ge tk') N := ⟨G1.R, G1.C, G1.E, G1.ok, G1.S, G1.b⟩
  cases t with
  | true => exact up_lift G e (hb _ N _ G1' hP q)
  | false => exact (PE.mk G1' i q).lift G.S.lg.sub e
theorem Lg.new {x : Sx} {N : List OD} (G : Good c x N) {D : Addr} {h : Heap} (hn : x.h.get? D = none) (hs : Sub x.h h) (hD : h.get? D = some (listOf #[] 0)) : Ex0 x.zs x.W x.h (x.zs ++ [[D]]) (D :: x.W) h ∧ Lg c.X (x.zs ++ [[D]]) (D :: x.W) h (N ++ [.lst []]) := by
  have fl : (x.zs ++ [[D]]).flatten = x.zs.flatten ++ [D] := by simp
  have nD : D ∉ x.W := G.off_new hn
  have e : Ex0 x.zs x.W x.h (x.zs ++ [[D]]) (D :: x.W) h := ⟨⟨_, rfl⟩, fun b m => .tail _ m, fun b m => by
      rcases List.mem_cons.mp m with rfl | m
      · exact .inr hn
      · exact .inl m, fun b m => by
      rw [fl] at m
      rcases List.mem_append.mp m with m | m
      · exact .inl m
      · rw [List.mem_singleton.mp m]; exact .inr hn, fun b o _ q => hs b o q, fun b m => .inl m⟩
  refine ⟨e, G.S.lg.step e ?_ ?_ ?_ (by simp [G.S.lg.len]) fun i od z hi hz => ?_⟩
  · rw [fl]
    exact List.nodup_append.mpr ⟨G.S.lg.nd, by simp, fun a ha b hb q => nD (by rw [List.mem_singleton.mp hb] at q; exact q ▸ G.S.lg.sub a ha)⟩
  · intro b m
    rw [fl] at m
    rcases List.mem_append.mp m with m | m
    · exact .tail _ (G.S.lg.sub b m)
    · rw [List.mem_singleton.mp m]; exact .head _
  · intro b m
    rcases List.mem_cons.mp m with rfl | m
    · exact .inr (by rw [fl]; simp)
    · exact .inl m
  · have hl := G.S.lg.len
    by_cases q : i < x.zs.length
    · rw [List.getElem?_append_left (by omega)] at hi hz
      exact (G.S.lg.obs i od z hi hz).per e (fun b m => .inl (G.S.lg.sub b m)) fun b _ o q => hs b o q
    · rw [List.getElem?_append_right (by omega)] at hi hz
      rw [hl] at hi
      by_cases q2 : i - x.zs.length = 0
      · rw [q2] at hi hz; cases hi; cases hz
        exact ⟨D, [], 0, rfl, hD, .nil⟩
      · rw [List.getElem?_eq_none (by simp; omega)] at hz; cases hz
theorem Snd.newl : Snd c P (.List [] pos) eNew := fun x N k G hP h => wpAny_List (args_nil ⟨Nat.zero_le _, by
  obtain ⟨e, lg⟩ := Lg.new G (h := x.h.push _) get_new sub_push (Heap.get?_push_size _ rfl)
  exact ⟨_, _, _, x.ge, x.tk, .ob N.length, _, rfl, e, ⟨G.R, G.C, G.E, G.ok, G.S.per e lg, G.b⟩, .ob (r := []) (by rw [G.S.lg.len]; simp), h⟩⟩)
-- calls
noncomputable def CallShape (f : Expr) (as : List Expr) (pos : Pos) : Prop := ∀ env, eval (.Call f as [] pos) env = (do callWith pos (← eval f env) [] (backTo pos (starEach as env)) (backToKw pos (keywordEach [] env)))
theorem FnOk.ofCall {f : Addr} {ds : List D} {N : List OD} {k : Kt} (hk : CallOk c f ds N k) : FnOk c (.ref f) ds N k := fun x vs G il =>
  wpAny_mono (wpAny_call (hk x.A x.g x.h x.zs x.W x.ge x.dr x.tk x.os vs G.R G.C G.S.sub G.S.lg (fun b m => (G.S.off b m).2) G.b il)) (fun _ _ z => PE.ofPC G z) fun _ _ z => z
noncomputable def AOk (as : List Expr) : Prop := ∀ env pos, ∀ p ∈ backTo pos (starEach as env), p.1 = false
theorem AOk.nil : AOk [] := fun _ _ _ m => nomatch m
theorem AOk.cons {a : Expr} {r : List Expr} (hr : AOk r) (he : ∀ env, starEach (a :: r) env = (false, eval a env) :: starEach r env) : AOk (a :: r) := fun env pos p m => by
  rw [he] at m
  rcases List.mem_cons.mp m with rfl | m
  · rfl
  · exact hr env pos p m
theorem evalArgs_all {M : Model} {A : Around} {E : Value → Shared → Prop} {s : Shared} {f : Value} {args : List (Bool × Sem Value)} {Q : Args → Shared → Prop} (hf : ∀ p ∈ args, p.1 = false)
    (h : wpAny M A (spliced args) (fun vs s' => Q ⟨vs, []⟩ s') E s) : wpAny M A (evalArgs f true args []) Q E s := by
  cases args with
  | nil =>
    unfold evalArgs
    show wpAny M A (spliced [] >>= _) Q E s
    refine wpAny_bind (wpAny_mono h (fun vs s' h' => ?_) fun _ _ x => x)
    refine wpAny_bind (wpAny_pure ?_)
    refine wpAny_holding ?_
    simp only [List.all_nil, if_true]
    exact wpAny_bind (wpAny_pure (wpAny_bind (wpAny_pure (wpAny_pure h'))))
  | cons p r =>
    obtain ⟨b, x⟩ := p
    have : b = false := hf _ (.head _)
    subst this
    exact Calls.evalArgs_plain h
theorem callR {x : Sx} {f : Value} {first : List Value} {fds : List D} {as : List Expr} {u : ArT} {N : List OD} {R : Value → Shared → Prop} {kk : List D → List OD → Prop} (G : Good c x N) (hP : x.P = P) (hf : x.IsL fds first) (ha : SndA c P as u) (h : u c x.l N kk)
    (q : ∀ ds N1 zs W h ge tk vs, kk ds N1 → Ex0 x.zs x.W x.h zs W h → Good c (x.up zs W h ge tk) N1 → (x.up zs W h ge tk).IsL (fds ++ ds) vs → wpx c (x.up zs W h ge tk) (call f vs) R) (ok : AOk as)
    (hk : (∃ id, f = .builtin id) ∨ (∃ T, f = .type T) ∨ keepIn c.K f = true) : wpx c x (callWith pos f first (backTo pos (starEach as x.env)) []) R := by
  have hpl : (backTo pos (starEach as x.env)).any (·.1) = false := by
    rw [List.any_eq_false]; intro p hp; rw [ok x.env pos p hp]; exact Bool.false_ne_true
  have ev : wpx c x (evalArgs f true (backTo pos (starEach as x.env)) []) (fun a s₁ => c.K.In s₁.heap ∧ wpAny (model c.prog c.w) x.A (call f (first ++ a.pos) a.kw) R NoE s₁) := by
    refine evalArgs_all (ok x.env pos) (PA.bind (ha x N pos _ G hP h) fun zs W h ge tk vs ds N1 e G1 il hk => ⟨G1.C.X.keeps G1.S.sub, ?_⟩)
    exact q _ _ zs W h ge tk _ hk e G1 ((hf.per0 e G.S.lg.sub).append il)
  rcases hk with ⟨id, rfl⟩ | ⟨T, rfl⟩ | hk
  · exact Calls.callWith_builtin hpl (wpAny_mono ev (fun _ _ z => z.2) fun _ _ z => z)
  · exact PyProof.Rows.callWith_type hpl (wpAny_mono ev (fun _ _ z => z.2) fun _ _ z => z)
  · exact callWith_of (by rw [hpl]; rfl) (keeps_K hk) ev
theorem callX {x : Sx} {f : Value} {first : List Value} {fds : List D} {as : List Expr} {u : ArT} {N : List OD} {k : Kt} (G : Good c x N) (hP : x.P = P) (hf : x.IsL fds first) (ha : SndA c P as u) (h : u c x.l N fun ds N => FnOk c f (fds ++ ds) N k) (ok : AOk as)
    (hk : (∃ id, f = .builtin id) ∨ (∃ T, f = .type T) ∨ keepIn c.K f = true) : wpx c x (callWith pos f first (backTo pos (starEach as x.env)) []) (PE c x k) :=
  callR G hP hf ha h (fun _ _ _ _ _ _ _ _ q e G1 il => up_lift G e (q _ _ G1 il)) ok hk
theorem Snd.callX {fn : Expr} {f : Value} {as : List Expr} {u : ArT} (hf : Snd c P fn (eCst (.val f))) (ha : SndA c P as u) (ok : AOk as) (sh : CallShape fn as pos) (hk : (∃ id, f = .builtin id) ∨ (∃ T, f = .type T) ∨ keepIn c.K f = true) :
    Snd c P (.Call fn as [] pos) (eCall f u) := fun x N k G hP h => by
  rw [sh]
  refine wpAny_bind (PE.bind (k1 := fun d N' => d = .val f ∧ N' = N) (hf x N _ G hP ⟨rfl, rfl⟩) fun zs W h' ge tk v d N1 e G1 i hk' => ?_)
  obtain ⟨rfl, rfl⟩ := hk'
  rw [i.val']
  exact slPost G e (Mine.callX (first := []) (fds := []) G1 hP .nil ha h ok hk)
theorem Snd.callF (O : c.Ok) {fn : Expr} {f : Addr} {st : Stmt} {q : Str} {cc : Addr} {as : List Expr} {u : ArT} (hf : Snd c P fn (eCst (.val (.ref f)))) (FK : FnK c.K f st q cc) (ha : SndA c P as u) (ok : AOk as) (sh : CallShape fn as pos) : Snd c P (.Call fn as [] pos) (eCall (.ref f) u) := .callX hf ha ok sh (.inr (.inr FK.keep))
theorem Snd.callB {fn : Expr} {id : String} {as : List Expr} {u : ArT} (hf : Snd c P fn (eCst (.val (.builtin id)))) (ha : SndA c P as u) (ok : AOk as) (sh : CallShape fn as pos) : Snd c P (.Call fn as [] pos) (eCall (.builtin id) u) := .callX hf ha ok sh (.inl ⟨_, rfl⟩)
theorem Snd.callT {fn : Expr} {T : String} {as : List Expr} {u : ArT} (hf : Snd c P fn (eCst (.val (.type T)))) (ha : SndA c P as u) (ok : AOk as) (sh : CallShape fn as pos) : Snd c P (.Call fn as [] pos) (eCall (.type T) u) := .callX hf ha ok sh (.inr (.inl ⟨_, rfl⟩))
theorem Snd.meth {o : Expr} {n : Str} {apos : Pos} {f : Value} {as : List Expr} {u : ArT} (ho : Snd c P o s) (ha : SndA c P as u) (ok : AOk as) (hk : (∃ id, f = .builtin id) ∨ (∃ T, f = .type T) ∨ keepIn c.K f = true)
    (sh : ∀ env, ∃ pl, eval (.Call (.Attribute o n apos) as [] pos) env = (do
      let ov ← eval o env
      standAt apos.atName
      let (f, first) ← holding [ov] (getMethod ov n pl)
      callWith pos f first (backTo pos (starEach as env)) (backToKw pos (keywordEach [] env)))) : Snd c P (.Call (.Attribute o n apos) as [] pos) (eMeth f s n u) := fun x N k G hP h => by
  obtain ⟨pl, e⟩ := sh x.env
  refine methodCall_KW (pl := pl) (PE.bind (ho x N _ G hP h) fun zs W h' ge tk v d N1 e1 G1 i hk1 => ?_) e
  refine hk1.1 _ v pl _ G1 i ?_
  exact slPost G e1 (Mine.callX (first := [v]) (fds := [d]) G1 hP (.cons i .nil) ha hk1.2 ok hk)
end
end

noncomputable section
noncomputable abbrev Lk2 := Loc → List OD → Prop
noncomputable abbrev SxT := Cf → Loc → List OD → Lk2 → Lk2 → Kt → Prop
noncomputable abbrev Sx.to (x : Sx) (l : Loc) (zs : Zs) (W : List Addr) (h : Heap) (ge : Array GenState) (tk : Nat) : Sx := ⟨x.A, x.env, x.g, x.L, x.P, l, x.dr, x.os, zs, W, h, ge, tk⟩
noncomputable abbrev ExL (x : Sx) (zs : Zs) (W : List Addr) (h : Heap) : Prop := Ex (x.L :: x.zs.flatten) x.zs x.W x.h zs W h
inductive PS (c : Cf) (x : Sx) (kn kc : Lk2) (kr : Kt) (f : Flow) (s' : Shared) : Prop
  | mk (l : Loc) (zs : Zs) (W : List Addr) (h : Heap) (ge : Array GenState) (tk : Nat) (N : List OD) (e : s' = (x.to l zs W h ge tk).s) (x0 : ExL x zs W h) (G : Good c (x.to l zs W h ge tk) N) (hk : match f with
  | .next => kn l N
  | .cont => kc l N
  | .brk => False
  | .ret v => ∃ d, Is zs W h d v ∧ kr d N)
inductive Inv (c : Cf) (x : Sx) (p : Nat → Loc → Zs → List OD → Prop) (n : Nat) (s : Shared) : Prop
  | mk (l : Loc) (zs : Zs) (W : List Addr) (h : Heap) (ge : Array GenState) (tk : Nat) (N : List OD) (e : s = (x.to l zs W h ge tk).s) (x0 : ExL x zs W h) (G : Good c (x.to l zs W h ge tk) N) (hk : p n l zs N)
noncomputable def SndS (c : Cf) (P : Pm) (b : List Stmt) (t : SxT) : Prop := ∀ (x : Sx) (N : List OD) (kn kc : Lk2) (kr : Kt), Good c x N → x.P = P → t c x.l N kn kc kr → wpx c x (execs b x.env) (PS c x kn kc kr)
section
variable {c : Cf} {x : Sx} {N N' : List OD} {zs zs' : Zs} {W W' : List Addr} {h h' : Heap} {l l' : Loc} {ge ge' : Array GenState} {tk tk' : Nat} {k : Kt} {kn kc : Lk2} {kr : Kt}
theorem Good.liveL (G : Good c x N) : ∃ o, x.h.get? x.L = some o := by
  obtain ⟨m, F, _⟩ := G.S.fr; obtain ⟨o, _, _, ho, _⟩ := F.ns; exact ⟨o, ho⟩
theorem Good.toL (G : Good c x N) (G1 : Good c (x.up zs W h ge tk) N') (e : Ex0 x.zs x.W x.h zs W h) : ExL x zs W h :=
  ⟨e.pre, e.sub, e.new, e.nw, fun b o n q => e.kp b o (fun m => n (.tail _ m)) q, fun b m => by
    rcases List.mem_cons.mp m with rfl | m
    · exact .inr ⟨G.liveL, G1.liveL⟩
    · exact .inl m⟩
theorem ExL.trans (G : Good c x N) (a : ExL x zs W h) (b : ExL (x.to l zs W h ge tk) zs' W' h') : ExL x zs' W' h' :=
  Ex.trans G.S.lg.sub (fun _ m => .tail _ m) (fun b m => by
    rcases List.mem_cons.mp m with rfl | m
    · exact .inl (.head _)
    · exact .inr m) a b
theorem PS.lift {s f} (G : Good c x N) (a : ExL x zs W h) (p : PS c (x.to l zs W h ge tk) kn kc kr f s) : PS c x kn kc kr f s := by
  obtain ⟨l', zs', W', h', ge', tk', N', rfl, b, G', q⟩ := p
  exact ⟨l', zs', W', h', ge', tk', N', rfl, ExL.trans G a b, G', q⟩
theorem to_lift {m : Sem Flow} (G : Good c x N) (a : ExL x zs W h) (p : wpx c (x.to l zs W h ge tk) m (PS c (x.to l zs W h ge tk) kn kc kr)) : wpx c (x.to l zs W h ge tk) m (PS c x kn kc kr) :=
  wpAny_mono p (fun _ _ z => z.lift G a) fun _ _ z => z
theorem storeP {n : Str} {i : Nat} {d : D} {v : Value} {R : Unit → Shared → Prop} (G : Good c x N) (hs : Slot n i x.P.vs) (iv : x.Is d v)
    (q : ∀ h tk, 0 < tk → ExL x x.zs x.W h → Keep [x.L] x.h h → Good c (x.to (x.l.set i (some d)) x.zs x.W h x.ge tk) N → R () ⟨h, x.ge, x.dr, tk, x.os⟩) : wpx c x (storeName x.env n v) R := by
  obtain ⟨m, F, hl⟩ := G.S.fr
  have z := G.ok.v n hs.mem
  have E := G.E
  refine wpAny_storeName_local (m := m) (by show x.env.scope.names.lookup n = _; rw [E.sc]; exact z.1) (by rw [E.lo]; exact F.ns) (fun h' hn hsb => ?_) (by rw [E.sc, G.ok.k]; rfl)
  rw [E.lo] at hn hsb
  have liveL := G.liveL
  obtain ⟨oL', _, _, hoL', _⟩ := id hn
  have e : ExL x x.zs x.W h' := ⟨⟨[], by simp⟩, fun _ m => m, fun _ m => .inl m, fun _ m => .inl m, fun b o n q => hsb.extBut b o (fun r => n (r ▸ .head _)) q, fun b m => by
    rcases List.mem_cons.mp m with rfl | m
    · exact .inr ⟨liveL, ⟨_, hoL'⟩⟩
    · exact .inl m⟩
  have nq := G.S.noSeq
  refine q h' _ (Nat.succ_pos _) e (fun b o n q => hsb.extBut b o (fun r => n (List.mem_singleton.mpr r)) q) ⟨G.R, G.C, G.E, G.ok, ⟨⟨_, F.set hn hsb, fun j y d' a b => ?_⟩, G.S.off, ?_⟩, G.b⟩
  · by_cases hj : j = i
    · subst hj
      have hy : y = n := by rw [hs.get] at a; exact (Option.some.inj a).symm
      subst hy
      have hd : d' = d := by
        rw [List.getElem?_set_self'] at b
        cases hq : x.l[j]? with
        | none => rw [hq] at b; cases b
        | some o => rw [hq] at b; simpa using b.symm
      subst hd
      exact ⟨v, by simp, iv.per e nq⟩
    · rw [List.getElem?_set_ne (Ne.symm hj)] at b
      obtain ⟨v', hv', i'⟩ := hl j y d' a b
      refine ⟨v', ?_, i'.per e nq⟩
      have : y ≠ n := fun r => hj (by
        subst r
        have h1 := (List.getElem?_eq_some_iff.mp a).1
        have h2 := (List.getElem?_eq_some_iff.mp hs.get).1
        exact (List.getElem_inj (h₀ := h1) (h₁ := h2) G.ok.n).mp (by rw [(List.getElem?_eq_some_iff.mp a).2, (List.getElem?_eq_some_iff.mp hs.get).2]))
      simp [this, hv']
  · exact G.S.lg.step e G.S.lg.nd G.S.lg.sub (fun b m => .inl m) G.S.lg.len fun i od z a b => (G.S.lg.obs i od z a b).per e nq fun b' hb o q => hsb.extBut b' o (fun r => (G.S.off b' (List.mem_flatten.mpr ⟨z, List.mem_of_getElem? b, hb⟩)).1 r) q
theorem store {n : Str} {i : Nat} {d : D} {v : Value} {R : Unit → Shared → Prop} (G : Good c x N) (hs : Slot n i x.P.vs) (iv : x.Is d v)
    (q : ∀ h tk, ExL x x.zs x.W h → Keep [x.L] x.h h → Good c (x.to (x.l.set i (some d)) x.zs x.W h x.ge tk) N → R () ⟨h, x.ge, x.dr, tk, x.os⟩) : wpx c x (storeName x.env n v) R := storeP G hs iv fun h tk _ e k G' => q h tk e k G'
end
noncomputable def sNil : SxT := fun c l N kn _ _ => kn l N
noncomputable def sAsg (i : Nat) (e : EvT) (r : SxT) : SxT := fun c l N kn kc kr => e c l N fun d N => r c (l.set i (some d)) N kn kc kr
noncomputable def sAug (op : Operator) (i : Nat) (e : EvT) (r : SxT) : SxT := fun c l N kn kc kr => locV l[i]? fun d => e c l N fun y N => InOk c op d y N fun z N => r c (l.set i (some z)) N kn kc kr
noncomputable def sRet (e : EvT) : SxT := fun c l N _ _ kr => e c l N kr
noncomputable def sIf (t : CdT) (a b r : SxT) : SxT := fun c l N kn kc kr => t c l N fun t N => cond t (a c l N (fun l N => r c l N kn kc kr) kc kr) (b c l N (fun l N => r c l N kn kc kr) kc kr)
noncomputable def sExp (e : EvT) (r : SxT) : SxT := fun c l N kn kc kr => e c l N fun _ N => r c l N kn kc kr
noncomputable def sCont : SxT := fun c l N _ kc _ => kc l N
section
variable {c : Cf} {P : Pm} {r : List Stmt} {pos : Pos} {u : SxT}
theorem SndS.nil : SndS c P [] sNil := fun x N kn kc kr G hP h => wpAny_execs_nil ⟨x.l, x.zs, x.W, x.h, x.ge, x.tk, N, rfl, G.toL (zs := x.zs) (W := x.W) (h := x.h) (ge := x.ge) (tk := x.tk) G .refl, G, h⟩
theorem SndS.next {x : Sx} {kn kc : Lk2} {kr : Kt} {st : Stmt} (p : wpx c x (exec st x.env) (fun f s' => match f with
    | .next => wpAny (model c.prog c.w) x.A (execs r x.env) (PS c x kn kc kr) NoE s'
    | f => PS c x kn kc kr f s')) : wpx c x (execs (st :: r) x.env) (PS c x kn kc kr) := wpAny_execs_cons (wpAny_mono p (fun f s' z => by cases f <;> exact z) fun _ _ z => z)
theorem SndS.asg {n : Str} {i : Nat} {e : Expr} {t : EvT} {px : Pos} (hs : Slot n i P.vs) (he : Snd c P e t) (sw : ∀ env, swapsWith e (some (.Name n px)) pos.line env = pure false) (hr : SndS c P r u) : SndS c P (.Assign [.Name n px] e pos :: r) (sAsg i t u) := fun x N kn kc kr G hP h => by
  subst hP
  refine SndS.next (wpAny_Assign_Name (PE.bind (he x N _ G rfl h) fun zs W h ge tk v d N1 e1 G1 iv hk => ?_) (sw _))
  refine store G1 hs iv fun h2 tk2 e2 _ G2 => ?_
  exact to_lift G (ExL.trans (l := x.l) (ge := ge) (tk := tk) G (G.toL G1 e1) e2) (hr _ N1 kn kc kr G2 rfl hk)
theorem SndS.aug {n : Str} {i : Nat} {op : Operator} {e : Expr} {t : EvT} {px : Pos} (hs : Slot n i P.vs) (he : Snd c P e t) (hr : SndS c P r u) : SndS c P (.AugAssign (.Name n px) op e pos :: r) (sAug op i t u) := fun x N kn kc kr G hP h => by
  subst hP
  have key : Snd c x.P (.Name n px) (eLoc i) := Snd.loc hs
  unfold sAug locV at h
  split at h
  · rename_i d hd
    obtain ⟨m, F, hl⟩ := G.S.fr
    obtain ⟨v, hv, iv⟩ := hl i n d hs.get hd
    have z := G.ok.v n hs.mem
    have E := G.E
    refine SndS.next (wpAny_AugAssign_Name (wpAny_loadName_local (by rw [E.sc]; exact G.ok.k) (by show x.env.scope.names.lookup n = _; rw [E.sc]; exact z.1) (by rw [E.lo]; exact F.ns) hv ?_))
    refine PE.bind (he x N _ G rfl h) fun zs W h ge tk v2 d2 N1 e1 G1 i2 hk => ?_
    refine PE.bind (hk _ v v2 G1 (iv.per0 e1 G.S.lg.sub) i2) fun zs3 W3 h3 ge3 tk3 v3 d3 N3 e3 G3 i3 hk3 => ?_
    refine store G3 hs i3 fun h4 tk4 e4 _ G4 => ?_
    exact to_lift G (ExL.trans (l := x.l) (ge := ge3) (tk := tk3) G (G.toL G3 (e1.trans G.S.lg.sub e3)) e4) (hr _ N3 kn kc kr G4 rfl hk3)
  · exact h.elim
theorem SndS.ret {e : Expr} {t : EvT} (he : Snd c P e t) : SndS c P (.Return (some e) pos :: r) (sRet t) := fun x N kn kc kr G hP h =>
  SndS.next (wpAny_Return_some (PE.bind (he x N _ G hP h) fun zs W h ge tk v d N1 e1 G1 iv hk => ⟨x.l, zs, W, h, ge, tk, N1, rfl, G.toL G1 e1, G1, d, iv, hk⟩))
theorem SndS.exp {e : Expr} {t : EvT} (he : Snd c P e t) (sw : ∀ env, swapsWith e none pos.line env = pure false) (hr : SndS c P r u) : SndS c P (.Expr e pos :: r) (sExp t u) := fun x N kn kc kr G hP h =>
  SndS.next (wpAny_Expr_any (PE.bind (he x N _ G hP h) fun zs W h ge tk v d N1 e1 G1 iv hk => to_lift G (G.toL G1 e1) (hr _ N1 kn kc kr G1 hP hk)) (by unfold interactive; rw [G.E.sc, G.ok.k]; rfl) (sw _))
theorem SndS.iff {e : Expr} {t : CdT} {a b : List Stmt} {ta tb : SxT} (he : SndC c P e t) (ha : SndS c P a ta) (hb : SndS c P b tb) (hr : SndS c P r u) : SndS c P (.If e a b pos :: r) (sIf t ta tb u) := fun x N kn kc kr G hP h => by
  refine SndS.next (wpAny_If (PB.bind (he x N _ G hP h) fun zs W h ge tk t N1 e1 G1 hk => ?_))
  have fin : ∀ {bd : List Stmt} {tt : SxT}, SndS c P bd tt → tt c x.l N1 (fun l N => u c l N kn kc kr) kc kr → wpx c (x.up zs W h ge tk) (execs bd x.env) (fun f s' => match f with
      | .next => wpAny (model c.prog c.w) x.A (execs r x.env) (PS c x kn kc kr) NoE s'
      | f => PS c x kn kc kr f s') := fun hs hq => by
    refine wpAny_mono (hs _ N1 _ kc kr G1 hP hq) (fun f s' z => ?_) fun _ _ z => z
    obtain ⟨l2, zs2, W2, h2, ge2, tk2, N2, rfl, e2, G2, q⟩ := z
    have e12 : ExL x zs2 W2 h2 := ExL.trans (l := x.l) (ge := ge) (tk := tk) G (G.toL G1 e1) e2
    cases f with
    | next => exact to_lift G e12 (hr _ N2 kn kc kr G2 hP q)
    | cont => exact ⟨l2, zs2, W2, h2, ge2, tk2, N2, rfl, e12, G2, q⟩
    | brk => exact q.elim
    | ret v => exact ⟨l2, zs2, W2, h2, ge2, tk2, N2, rfl, e12, G2, q⟩
  cases t with
  | true => exact fin ha hk
  | false => exact fin hb hk
end
end

noncomputable section
noncomputable def chars (x : Str) : List D := x.cps.toList.map fun c => .str ⟨#[c]⟩
noncomputable def ItOk (d : D) (ds : List D) : Prop := d = .lst ds ∨ (∃ n : Nat, ∃ a : Int, d = .rng a (a + n) ∧ 0 ≤ a ∧ a + n < 1000000 ∧ ds = (List.range n).map fun (i : Nat) => .int (a + i)) ∨ ∃ s, d = .str s ∧ ds = chars s
noncomputable def ownTup : List String := ["enumerate", "zip", "dict_itemiterator", "dict_reverseitemiterator", "odict_iterator", "itertools.zip_longest", "itertools.pairwise"]
structure Itr (c : Cf) (x : Sx) (ds : List D) (I : Addr) (St : Nat → Heap → Prop) (fp : List Addr) : Prop where
  off : ∀ b ∈ fp, b = I ∨ (b ∉ x.W ∧ (∃ o, x.h.get? b = some o) ∧ b ≠ x.L)
  self : I ∈ fp
  wk : ∀ A' : Around, A'.handled = none → Walks c.prog c.w A' I fp [I] ds.length (fun i v => ∃ d, ds[i]? = some d ∧ x.Is d v) St
  live : ∀ i h, St i h → ∃ o, h.get? I = some o
  ow : ∀ i h, St i h → ∃ o T, h.get? I = some o ∧ o.cls = .type T ∧ ownTup.contains T = false
theorem walks_mono {prog : Program} {w : World} {A : Around} {I : Addr} {fp wr : List Addr} {n : Nat} {P P' : Nat → Value → Prop} {St : Nat → Heap → Prop} (W : Walks prog w A I fp wr n P St) (h : ∀ i v, i < n → P i v → P' i v) : Walks prog w A I fp wr n P' St :=
  ⟨W.sub, W.frame, fun i s Q E hi st hQ => W.item i s Q E hi st fun v h' tk hp => hQ v h' tk (h i v hi hp), W.done, W.self⟩
section
variable {c : Cf} {x : Sx} {N : List OD}
theorem mkItr {d : D} {ds : List D} {v : Value} {Q : Value → Shared → Prop} (G : Good c x N) (r : ItOk d ds) (i : x.Is d v)
    (q : ∀ I St fp h tk, x.h.get? I = none → Sub x.h h → Itr c x ds I St fp → St 0 h → Q (.ref I) ⟨h, x.ge, x.dr, tk, x.os⟩) : wpx c x (pyIter v) Q := by
  rcases r with rfl | ⟨n, a, rfl, h0, h1, rfl⟩ | ⟨s, rfl, rfl⟩
  · obtain ⟨a, vs, rfl, ha, na, la⟩ := i.lst'
    have hlt : a < x.h.objs.size := let ⟨o, ho, _⟩ := ha; Heap.lt_size ho
    refine wpAny_pyIter_list (s := x.s) ha (q _ (fun i h => h.IsListIter x.h.objs.size a i ∧ h.IsList a vs.toArray) [x.h.objs.size, a] _ _ get_new sub_push ⟨fun b m => ?_, .head _, fun A' hA => ?_, fun i h st => let ⟨o, ho, _⟩ := st.1; ⟨o, ho⟩, fun i h st => let ⟨o, ho, hc, _⟩ := st.1; ⟨o, _, ho, hc, by decide⟩⟩ ⟨⟨_, Heap.get?_push_size _ rfl, rfl, rfl⟩, ha.push _⟩)
    · rcases List.mem_cons.mp m with rfl | m
      · exact .inl rfl
      · obtain rfl := List.mem_singleton.mp m
        obtain ⟨o, ho, hc, n, hd⟩ := ha
        refine .inr ⟨na, ⟨o, ho⟩, fun e => ?_⟩
        obtain ⟨m, F, _⟩ := G.S.fr
        obtain ⟨o', es, ep, ho', hd', _⟩ := F.ns
        rw [← e, ho] at ho'; cases ho'; rw [hd] at hd'; cases hd'
    · have W := Walks.list (prog := c.prog) (w := c.w) hA x.h.objs.size a (Nat.ne_of_lt hlt) vs.toArray
      have e : vs.toArray.size = ds.length := by simpa using la.1
      rw [e] at W
      refine walks_mono W fun i v hi hp => ?_
      have hd : ds[i]? = some ds[i] := List.getElem?_eq_getElem hi
      obtain ⟨v', hv', iv⟩ := la.get hd
      have : vs[i]? = some v := by simpa using hp
      rw [hv'] at this; cases this
      exact ⟨_, hd, iv⟩
  · obtain ⟨r, t, u, w', rfl, hr, nr⟩ := i.rng'
    have hs : Builtin.Range.rangeSize a (a + n) 1 = (n : Int) := by rw [rangeSize_one]; split <;> omega
    have fitL : ∀ z : Int, 0 ≤ z → z < 2000000 → Builtin.Range.rangeFitsLong z = true := fun z a b => by unfold Builtin.Range.rangeFitsLong; simp; omega
    have hsm : Builtin.Range.small a (a + n) 1 = true := by
      unfold Builtin.Range.small
      rw [hs, fitL a h0 (by omega), fitL (a + n) (by omega) (by omega), fitL 1 (by omega) (by omega), fitL n (by omega) (by omega)]
      simp only [Bool.true_and, show (1 : Int) > 0 by decide, if_true, Bool.or_eq_true]
      exact .inr (fitL _ (by omega) (by omega))
    refine wpAny_pyIter_range (s := x.s) hr hsm (q _ (fun i h => IsRangeIter h x.h.objs.size (a + (i : Nat) * 1) ((n : Int) - (i : Nat)) 1) [x.h.objs.size] _ _ get_new sub_push ⟨fun b m => .inl (List.mem_singleton.mp m), .head _, fun A' hA => ?_, fun i h st => ⟨_, st⟩, fun i h st => ⟨_, _, st, rfl, by decide⟩⟩ ?_)
    · have W := Walks.range (prog := c.prog) (w := c.w) hA x.h.objs.size a 1 n
      rw [show ((List.range n).map fun (i : Nat) => D.int (a + i)).length = n by simp]
      refine walks_mono W fun i v hi hp => ?_
      obtain ⟨t, rfl⟩ := hp
      exact ⟨.int (a + i), by simp [hi], by rw [Int.mul_one]; exact .int⟩
    · show (x.h.push _).get? _ = _
      rw [hs]
      simpa [rawInt] using Heap.get?_push_size x.h (o := { cls := .type "range_iterator", data := .fields #[rawInt a, rawInt (n : Int), rawInt 1] }) rfl
  · obtain ⟨t, rfl⟩ := i.str'
    refine wpAny_pyIter_strU (s := x.s) (q _ (fun i h => h.IsStrIter x.h.objs.size (strIterType s) s t i) [x.h.objs.size] _ _ get_new sub_push ⟨fun b m => .inl (List.mem_singleton.mp m), .head _, fun A' hA => ?_, fun i h st => let ⟨o, ho, _⟩ := st; ⟨o, ho⟩, fun i h st => let ⟨o, ho, hc, _⟩ := st; ⟨o, _, ho, hc, by unfold strIterType; split <;> decide⟩⟩ ⟨_, Heap.get?_push_size _ rfl, rfl, rfl⟩)
    have W : Walks c.prog c.w A' x.h.objs.size [x.h.objs.size] [x.h.objs.size] s.cps.size (SignAt s) (fun i h => h.IsStrIter x.h.objs.size (strIterType s) s t i) := by
      unfold strIterType
      split
      · exact Walks.strAscii hA _ s t
      · exact Walks.strWide hA _ s t
    rw [show (chars s).length = s.cps.size by simp [chars]]
    refine walks_mono W fun i v hi hp => ?_
    obtain ⟨cc, u, hc, rfl⟩ := hp
    exact ⟨.str ⟨#[cc]⟩, by simp [chars, hc], .str⟩
/-- the state behind a step of an iterator of the loop's own -/
theorem Good.atI {I : Addr} {h : Heap} {tk : Nat} (G : Good c x N) (hI : I ∈ x.W) (hz : I ∉ x.zs.flatten) (hL : I ≠ x.L) (hg : x.g.get? I = none) (hl : ∃ o, h.get? I = some o) (k : ∀ b o, b ≠ I → x.h.get? b = some o → h.get? b = some o) : Good c (x.to x.l x.zs x.W h x.ge tk) N := by
  have e : Ex [I] x.zs x.W x.h x.zs x.W h := ⟨⟨[], by simp⟩, fun _ m => m, fun _ m => .inl m, fun _ m => .inl m, fun b o n q => k b o (fun r => n (r ▸ .head _)) q, fun b m => .inr (by rw [List.mem_singleton.mp m]; exact ⟨G.S.lg.live I hI, hl⟩)⟩
  have hF : ∀ b ∈ [I], b ∈ x.W ∨ NoSeq x.h b := fun b m => .inl (by rw [List.mem_singleton.mp m]; exact hI)
  obtain ⟨m, F, hloc⟩ := G.S.fr
  refine ⟨G.R, G.C, G.E, G.ok, ⟨⟨m, ⟨F.ns.at' fun o q => k _ o (Ne.symm hL) q, fun b o q => k b o (fun r => by rw [r, hg] at q; cases q) (F.keep b o q), F.above⟩, fun i y d a b => ?_⟩, G.S.off, ?_⟩, G.b⟩
  · obtain ⟨v, hv, i⟩ := hloc i y d a b
    exact ⟨v, hv, i.per e hF⟩
  · exact G.S.lg.step e G.S.lg.nd G.S.lg.sub (fun b m => .inl m) G.S.lg.len fun i od z a b => (G.S.lg.obs i od z a b).per e hF fun b' hb o q => k b' o (fun r => hz (r ▸ List.mem_flatten.mpr ⟨z, List.mem_of_getElem? b, hb⟩)) q
theorem Is.kept {zs : Zs} {W W2 : List Addr} {h h' : Heap} {d : D} {v : Value} (hs : ∀ b ∈ W2, b ∈ W) (k : ∀ b o, b ∉ W → (∀ es n, o.data ≠ .dict es n) → h.get? b = some o → h'.get? b = some o) (i : Is zs W h d v) : Is zs W2 h' d v := by
  induction i with
  | none => exact .none
  | bool => exact .bool
  | int => exact .int
  | str => exact .str
  | flt => exact .flt
  | val => exact .val
  | lst ho ha hl _ ih => obtain ⟨o, ho, hc, n, hd⟩ := ho; exact .lst ⟨o, k _ _ ha (fun _ _ e => by rw [hd] at e; cases e) ho, hc, n, hd⟩ (fun m => ha (hs _ m)) hl ih
  | tup ho ha hl _ ih => obtain ⟨o, ho, hc, n, hd⟩ := ho; exact .tup ⟨o, k _ _ ha (fun _ _ e => by rw [hd] at e; cases e) ho, hc, n, hd⟩ (fun m => ha (hs _ m)) hl ih
  | rng ho ha => exact .rng (k _ _ ha (fun _ _ e => by cases e) ho) (fun m => ha (hs _ m))
  | ob e => exact .ob e
  | sub e f => exact .sub e f
/-- the loop's iterator is done with -/
theorem Good.dropI {I : Addr} {h : Heap} {tk : Nat} (G : Good c x N) (hI : I ∈ x.W) (hz : I ∉ x.zs.flatten) (hL : I ≠ x.L) (hg : x.g.get? I = none) (k : ∀ b o, b ≠ I → x.h.get? b = some o → h.get? b = some o) : Good c (x.to x.l x.zs (x.W.filter (· != I)) h x.ge tk) N := by
  have hs : ∀ b ∈ x.W.filter (· != I), b ∈ x.W := fun b m => (List.mem_filter.mp m).1
  have ne : ∀ {b}, b ∈ x.W.filter (· != I) → b ≠ I := fun m => by simpa using (List.mem_filter.mp m).2
  have kW : ∀ b o, b ∉ x.W → (∀ es n, o.data ≠ .dict es n) → x.h.get? b = some o → h.get? b = some o := fun b o n _ q => k b o (fun r => n (r ▸ hI)) q
  obtain ⟨m, F, hloc⟩ := G.S.fr
  refine ⟨G.R, G.C, G.E, G.ok, ⟨⟨m, ⟨F.ns.at' fun o q => k _ o (Ne.symm hL) q, fun b o q => k b o (fun r => by rw [r, hg] at q; cases q) (F.keep b o q), F.above⟩, fun i y d a b => ?_⟩, G.S.off, ?_⟩, G.b⟩
  · obtain ⟨v, hv, i⟩ := hloc i y d a b
    exact ⟨v, hv, i.kept hs kW⟩
  · refine ⟨G.S.lg.nd, fun b m => List.mem_filter.mpr ⟨G.S.lg.sub b m, by simpa using fun r : b = I => hz (r ▸ m)⟩, fun b m => ?_, G.S.lg.len, fun i od z a b => ?_⟩
    · obtain ⟨o, ho⟩ := G.S.lg.live b (hs b m); exact ⟨o, k b o (ne m) ho⟩
    · have kz : ∀ b' ∈ z, ∀ o, x.h.get? b' = some o → h.get? b' = some o := fun b' hb o q => k b' o (fun r => hz (r ▸ List.mem_flatten.mpr ⟨z, List.mem_of_getElem? b, hb⟩)) q
      have q := G.S.lg.obs i od z a b
      cases od with
      | lst ds => obtain ⟨a', vs, n, rfl, ha, hi⟩ := q; exact ⟨a', vs, n, rfl, kz a' (.head _) _ ha, hi.1, fun p m => (hi.2 p m).kept hs kW⟩
      | lex => exact c.X.keep q kz
      | cit => exact c.X.ckeep q kz fun _ _ e => e
theorem ExL.dropI {zs W h h'} {I : Addr} (G : Good c x N) (hn : x.h.get? I = none) (e : ExL x zs W h) (k : ∀ b o, b ≠ I → h.get? b = some o → h'.get? b = some o) : ExL x zs (W.filter (· != I)) h' :=
  ⟨e.pre, fun b m => List.mem_filter.mpr ⟨e.sub b m, by simpa using fun r : b = I => by obtain ⟨o, ho⟩ := G.S.lg.live b m; rw [r, hn] at ho; cases ho⟩, fun b m => e.new b (List.mem_filter.mp m).1, e.nw, fun b o n q => k b o (fun r => by rw [r, hn] at q; cases q) (e.kp b o n q),
    fun b m => (e.lv b m).imp id fun ⟨⟨o, q⟩, o', q'⟩ => ⟨⟨o, q⟩, o', k b o' (fun r => by rw [r, hn] at q; cases q) q'⟩⟩
theorem ExL.atI {zs W h h'} {I : Addr} (hn : x.h.get? I = none) (e : ExL x zs W h) (k : ∀ b o, b ≠ I → h.get? b = some o → h'.get? b = some o) : ExL x zs W h' :=
  ⟨e.pre, e.sub, e.new, e.nw, fun b o n q => k b o (fun r => by rw [r, hn] at q; cases q) (e.kp b o n q), fun b m => (e.lv b m).imp id fun ⟨⟨o, q⟩, o', q'⟩ => ⟨⟨o, q⟩, o', k b o' (fun r => by rw [r, hn] at q; cases q) q'⟩⟩
end
theorem drop_at {α : Type} {l : List α} {j : Nat} {x : α} (h : l[j]? = some x) : l.drop j = x :: l.drop (j + 1) := by
  obtain ⟨hj, rfl⟩ := List.getElem?_eq_some_iff.mp h
  exact List.drop_eq_getElem_cons hj
noncomputable def forG (turn : D → Loc → List OD → Lk2 → Prop) : List D → Loc → List OD → Lk2 → Prop
  | [], l, N, k => k l N
  | d :: ds, l, N, k => turn d l N fun l N => forG turn ds l N k
noncomputable def sFor (i : Nat) (e : EvT) (b r : SxT) : SxT := fun c l N kn kc kr => e c l N fun d N => ∃ ds, ItOk d ds ∧ forG (fun d l N q => b c (l.set i (some d)) N q q kr) ds l N fun l N => r c l N kn kc kr
section
variable {c : Cf} {x : Sx} {N : List OD}
theorem Good.addI {I : Addr} {h : Heap} {tk : Nat} (G : Good c x N) (hn : x.h.get? I = none) (k : Sub x.h h) (hl : ∃ o, h.get? I = some o) : Good c (x.to x.l x.zs (I :: x.W) h x.ge tk) N ∧ ExL x x.zs (I :: x.W) h := by
  have e : Ex0 x.zs x.W x.h x.zs (I :: x.W) h := ⟨⟨[], by simp⟩, fun _ m => .tail _ m, fun b m => by
    rcases List.mem_cons.mp m with rfl | m
    · exact .inr hn
    · exact .inl m, fun _ m => .inl m, fun b o _ q => k b o q, fun _ m => .inl m⟩
  have lg : Lg c.X x.zs (I :: x.W) h N := ⟨G.S.lg.nd, fun b m => .tail _ (G.S.lg.sub b m), fun b m => by
    rcases List.mem_cons.mp m with rfl | m
    · exact hl
    · obtain ⟨o, ho⟩ := G.S.lg.live b m; exact ⟨o, k b o ho⟩, G.S.lg.len, fun i od z a b => (G.S.lg.obs i od z a b).per e (fun b m => .inl (G.S.lg.sub b m)) fun b _ o q => k b o q⟩
  have G' : Good c (x.to x.l x.zs (I :: x.W) h x.ge tk) N := ⟨G.R, G.C, G.E, G.ok, G.S.per e lg, G.b⟩
  exact ⟨G', G.toL (ge := x.ge) (tk := tk) G' e⟩
/-- a loop over an iterator: the state before a turn -/
structure Tn (c : Cf) (x : Sx) (I : Addr) (St : Nat → Heap → Prop) (j : Nat) (l : Loc) (zs : Zs) (W : List Addr) (h : Heap) (ge : Array GenState) (tk : Nat) (N : List OD) : Prop where
  e : ExL x zs W h
  G : Good c (x.to l zs W h ge tk) N
  st : St j h
  w : I ∈ W
  z : I ∉ zs.flatten
theorem Tn.next {I : Addr} {St : Nat → Heap → Prop} {fp : List Addr} {ds : List D} {j : Nat} {l l2 : Loc} {zs zs2 : Zs} {W W2 : List Addr} {h h2 : Heap} {ge ge2 : Array GenState} {tk tk2 : Nat} {N1 N2 : List OD} (G : Good c x N) (it : Itr c x ds I St fp) (hn : x.h.get? I = none)
    (T : Tn c x I St j l zs W h ge tk N1) (e : ExL (x.to l zs W h ge tk) zs2 W2 h2) (G2 : Good c (x.to l2 zs2 W2 h2 ge2 tk2) N2) : Tn c x I St j l2 zs2 W2 h2 ge2 tk2 N2 := by
  have lv := it.live _ _ T.st
  have hL : I ≠ x.L := fun q => by obtain ⟨o, ho⟩ := G.liveL; rw [← q, hn] at ho; cases ho
  refine ⟨ExL.trans G T.e e, G2, (it.wk x.A G.R.h).frame _ _ _ T.st fun b hb o q => e.kp b o (fun m => ?_) q, e.sub _ T.w, fun m => ?_⟩
  · rcases it.off b hb with rfl | ⟨nW, ⟨o', ho'⟩, nL⟩
    · rcases List.mem_cons.mp m with r | m
      · exact hL r
      · exact T.z m
    · rcases List.mem_cons.mp m with r | m
      · exact nL r
      · rcases T.e.nw b m with q | q
        · exact nW (G.S.lg.sub b q)
        · rw [ho'] at q; cases q
  · rcases e.nw _ m with q | q
    · exact T.z q
    · obtain ⟨o, ho⟩ := lv; rw [show (x.to l zs W h ge tk).h = h from rfl, ho] at q; cases q
theorem Itr.letOwn {I : Addr} {St : Nat → Heap → Prop} {fp : List Addr} {ds : List D} (it : Itr c x ds I St fp) {j : Nat} {s : Shared} {v : Value} {Q : Unit → Shared → Prop} {target : Expr} (st : St j s.heap) (q : Q () s) : wpAny (model c.prog c.w) x.A (letOwnedTupleGo target (.ref I) v) Q NoE s := by
  obtain ⟨o, T, ho, hc, hT⟩ := it.ow _ _ st
  have fin : wpAny (model c.prog c.w) x.A (do
      let (.ref r, .ref a) := (Value.ref I, v) | return
      let o ← load r
      match o.cls, o.data with
      | .type n, .fields vs =>
        if ["enumerate", "zip", "dict_itemiterator", "dict_reverseitemiterator", "odict_iterator", "itertools.zip_longest", "itertools.pairwise"].contains n && vs[0]? == some (rawInt a) then
          rule "for.unpacks-the-owned-tuple"
          updateField r 0 .none
      | _, _ => pure ()) Q NoE s := by
    cases v with
    | ref a =>
      refine wpAny_bind (wpAny_load ho ?_)
      rw [hc]
      cases o.data with
      | fields vs =>
        show wpAny _ _ (if (ownTup.contains T && vs[0]? == some (rawInt a)) = true then _ else _) Q NoE s
        rw [hT, Bool.false_and, if_neg Bool.false_ne_true]
        exact wpAny_pure q
      | _ => exact wpAny_pure q
    | _ => exact wpAny_pure q
  unfold letOwnedTupleGo
  split
  · exact fin
  · exact fin
  · exact wpAny_pure q
/-- one step of the iterator -/
theorem Tn.step {I : Addr} {St : Nat → Heap → Prop} {fp : List Addr} {ds : List D} {j : Nat} {l : Loc} {zs : Zs} {W : List Addr} {h : Heap} {ge : Array GenState} {tk : Nat} {N1 : List OD} {Q : Option Value → Shared → Prop} (G : Good c x N) (it : Itr c x ds I St fp) (hn : x.h.get? I = none)
    (T : Tn c x I St j l zs W h ge tk N1) (hj : j ≤ ds.length)
    (hq : ∀ d v h' tk', ds[j]? = some d → j < ds.length → Tn c x I St (j + 1) l zs W h' ge tk' N1 → Is zs W h' d v → Q (some v) ⟨h', ge, x.dr, tk', x.os⟩)
    (hd : j = ds.length → ∀ h' tk', ExL x zs (W.filter (· != I)) h' → Good c (x.to l zs (W.filter (· != I)) h' ge tk') N1 → Q none ⟨h', ge, x.dr, tk', x.os⟩) : wpx c (x.to l zs W h ge tk) (pyNext (.ref I)) Q := by
  have lv := it.live _ _ T.st
  have hL : I ≠ x.L := fun q => by obtain ⟨o, ho⟩ := G.liveL; rw [← q, hn] at ho; cases ho
  have hg : x.g.get? I = none := by
    cases q : x.g.get? I with
    | none => rfl
    | some o => rw [G.S.sub _ _ q] at hn; cases hn
  have W' := it.wk x.A G.R.h
  by_cases hlt : j < ds.length
  · refine W'.item j (x.to l zs W h ge tk).s _ _ hlt T.st fun v h' tk' hp st k => ?_
    obtain ⟨d, hd', iv⟩ := hp
    have k' : ∀ b o, b ≠ I → h.get? b = some o → h'.get? b = some o := fun b o n q => k b o (fun m => n (List.mem_singleton.mp m)) q
    have e' := ExL.atI (x := x) hn T.e k'
    have G' := Good.atI (x := x.to l zs W h ge tk) (tk := tk') T.G T.w T.z hL hg (it.live _ _ st) k'
    exact hq d v h' tk' hd' hlt ⟨e', G', st, T.w, T.z⟩ (iv.per e' G.S.noSeq)
  · have hj' : j = ds.length := Nat.le_antisymm hj (Nat.le_of_not_lt hlt)
    refine W'.done (x.to l zs W h ge tk).s _ _ (hj' ▸ T.st) fun h' tk' k => ?_
    have k' : ∀ b o, b ≠ I → h.get? b = some o → h'.get? b = some o := fun b o n q => k b o (fun m => n (List.mem_singleton.mp m)) q
    exact hd hj' h' tk' (ExL.dropI G hn T.e k') (Good.dropI (x := x.to l zs W h ge tk) (tk := tk') T.G T.w T.z hL hg k')
end
inductive Tns (c : Cf) (x : Sx) (I : Addr) (St : Nat → Heap → Prop) (ds : List D) (p : List D → Loc → List OD → Prop) (n : Nat) (s : Shared) : Prop
  | mk (j : Nat) (l : Loc) (zs : Zs) (W : List Addr) (h : Heap) (ge : Array GenState) (tk : Nat) (N : List OD) (en : n = ds.length - j) (hj : j ≤ ds.length) (e : s = (x.to l zs W h ge tk).s) (T : Tn c x I St j l zs W h ge tk N) (hk : p (ds.drop j) l N)
section
variable {c : Cf} {P : Pm} {r : List Stmt} {pos : Pos} {u : SxT}
theorem SndS.for1 {n : Str} {i : Nat} {e : Expr} {t : EvT} {px : Pos} {b : List Stmt} {tb : SxT} (hs : Slot n i P.vs) (he : Snd c P e t) (hf : ∀ env x, foldedSetIterable e env x = pure x) (hb : SndS c P b tb) (hr : SndS c P r u) :
    SndS c P (.For (.Name n px) e b [] pos :: r) (sFor i t tb u) := fun x N kn kc kr G hP h => by
  subst hP
  refine SndS.next (for_stmt (PE.bind (he x N _ G rfl h) fun zs W h1 ge tk v d N1 e1 G1 iv hk => ?_) (hf _))
  obtain ⟨ds, it, hk⟩ := hk
  refine mkItr G1 it iv fun I St fp h2 tk2 hn k2 itr st0 => ?_
  have e1' := G.toL G1 e1
  obtain ⟨G2, e2⟩ := Good.addI (tk := tk2) G1 hn k2 (itr.live _ _ st0)
  have T0 : Tn c (x.up zs W h1 ge tk) I St 0 x.l zs (I :: W) h2 ge tk2 N1 := ⟨e2, G2, st0, .head _, fun m => by
    obtain ⟨o, ho⟩ := G1.S.lg.live I (G1.S.lg.sub I m); rw [hn] at ho; cases ho⟩
  refine for_turns (Tns c (x.up zs W h1 ge tk) I St ds fun ds l N => forG (fun d l N q => tb c (l.set i (some d)) N q q kr) ds l N fun l N => u c l N kn kc kr) ?_ _ ⟨0, x.l, zs, I :: W, h2, ge, tk2, N1, rfl, Nat.zero_le _, rfl, T0, hk⟩
  rintro n' s' ⟨j, l, zs', W', h', ge', tk', N', rfl, hj, rfl, T, hq⟩
  refine Tn.step G1 itr hn T hj (fun d v h3 tk3 hd hlt T3 iv3 => ?_) (fun hj' h3 tk3 e3 G3 => ?_)
  · rw [drop_at hd] at hq
    refine wpAny_pure (wpAny_assign_Name (store T3.G hs iv3 fun h4 tk4 e4 _ G4 => ?_))
    refine wpAny_mono (hb _ _ _ _ kr G4 rfl hq) (fun f s4 z => ?_) fun _ _ z => z
    obtain ⟨l5, zs5, W5, h5, ge5, tk5, N5, rfl, e5, G5, q⟩ := z
    have T5 := T3.next G1 itr hn (ExL.trans (l := l.set i (some d)) (ge := ge') (tk := tk4) T3.G e4 e5) G5
    cases f with
    | next => exact ⟨_, Nat.sub_succ_lt_self _ _ hlt, j + 1, l5, zs5, W5, h5, ge5, tk5, N5, rfl, hlt, rfl, T5, q⟩
    | cont => exact ⟨_, Nat.sub_succ_lt_self _ _ hlt, j + 1, l5, zs5, W5, h5, ge5, tk5, N5, rfl, hlt, rfl, T5, q⟩
    | brk => exact q.elim
    | ret v => exact ⟨l5, zs5, W5, h5, ge5, tk5, N5, rfl, ExL.trans (l := x.l) (ge := ge) (tk := tk) G e1' T5.e, G5, q⟩
  · rw [hj', List.drop_length] at hq
    exact to_lift G (ExL.trans (l := x.l) (ge := ge) (tk := tk) G e1' e3) (hr _ N' kn kc kr G3 rfl hq)
end
end

noncomputable section
noncomputable def whG (test : Loc → List OD → (Bool → List OD → Prop) → Prop) (body : Loc → List OD → Lk2 → Prop) : Nat → Loc → List OD → Lk2 → Prop
  | 0, _, _, _ => False
  | n + 1, l, N, k => test l N fun t N => cond t (body l N fun l N => whG test body n l N k) (k l N)
noncomputable def sWh (t : CdT) (b r : SxT) : SxT := fun c l N kn kc kr => ∃ n, whG (t c) (fun l N q => b c l N q q kr) n l N fun l N => r c l N kn kc kr
section
variable {c : Cf} {P : Pm} {r : List Stmt} {pos : Pos} {u : SxT}
theorem SndS.wh {e : Expr} {t : CdT} {b : List Stmt} {tb : SxT} (he : SndC c P e t) (hb : SndS c P b tb) (hr : SndS c P r u) : SndS c P (.While e b [] pos :: r) (sWh t tb u) := fun x N kn kc kr G hP h => by
  subst hP
  obtain ⟨n, h⟩ := h
  refine SndS.next (wpAny_While ?_)
  refine codeAny_whileLoop (Inv c x fun n l _ N => whG (t c) (fun l N q => tb c l N q q kr) n l N fun l N => u c l N kn kc kr) ?_ n ⟨x.l, x.zs, x.W, x.h, x.ge, x.tk, N, rfl, G.toL (ge := x.ge) (tk := x.tk) G .refl, G, h⟩
  rintro m s' ⟨l, zs, W, h', ge, tk, N', rfl, e1, G1, q⟩
  cases m with
  | zero => exact q.elim
  | succ m =>
    refine toE (PB.bind (he _ N' _ G1 rfl q) fun zs2 W2 h2 ge2 tk2 b N2 e2 G2 hk => ?_)
    have e12 : ExL x zs2 W2 h2 := ExL.trans (l := l) (ge := ge) (tk := tk) G e1 (G1.toL G2 e2)
    cases b with
    | true =>
      refine toE (wpAny_mono (hb _ N2 _ _ kr G2 rfl hk) (fun f s4 z => ?_) fun _ _ z => z)
      obtain ⟨l5, zs5, W5, h5, ge5, tk5, N5, rfl, e5, G5, q5⟩ := z
      have e15 : ExL x zs5 W5 h5 := ExL.trans (l := l) (ge := ge2) (tk := tk2) G e12 e5
      cases f with
      | next => exact ⟨m, Nat.lt_succ_self m, l5, zs5, W5, h5, ge5, tk5, N5, rfl, e15, G5, q5⟩
      | cont => exact ⟨m, Nat.lt_succ_self m, l5, zs5, W5, h5, ge5, tk5, N5, rfl, e15, G5, q5⟩
      | brk => exact q5.elim
      | ret v => exact ⟨l5, zs5, W5, h5, ge5, tk5, N5, rfl, e15, G5, q5⟩
    | false => exact wpAny_execs_nil (to_lift G e12 (hr _ N2 kn kc kr G2 rfl hk))
end
end

noncomputable section
theorem comp_turns {prog : Program} {w : World} {A : Around} {elt target iter : Expr} {ifs : List Expr} {scope : Scope} {pos : Pos} {it acc : Value} {env : Env} {R : Result → Shared → Prop} (I : Nat → Shared → Prop)
    (turn : ∀ n s, I n s → wpAny (model prog w) A (pyNext it) (fun r s₁ => match r with
      | none => R (.ok .next) s₁
      | some v => wpAny (model prog w) A (letOwnedTupleGo target it v) (fun _ s₂ => wpAny (model prog w) A (assign target env v) (fun _ s₃ =>
          wpAny (model prog w) A (forIn ifs true fun c r => if r = true then do let ok ← isTrue c env (eval c env); pure (ForInStep.yield ok) else pure (ForInStep.yield r)) (fun ok s₄ =>
            if ok = true then wpAny (model prog w) A (eval elt env) (fun x s₅ => wpAny (model prog w) A (call (.builtin "list.append") [acc, x]) (fun _ s₆ => ∃ m, m < n ∧ I m s₆) NoE s₅) NoE s₄
            else ∃ m, m < n ∧ I m s₄) NoE s₃) NoE s₂) NoE s₁) NoE s)
    (n : Nat) {s : Shared} (h : I n s) : codeAny (model prog w) A (.compLoop (.ListComp elt [⟨target, iter, ifs, 0⟩] scope pos) 0 it acc env) R s := by
  refine codeAny_loop rfl I (fun n s hI => ?_) n h
  show wpAny _ A ((compTurn (.ListComp elt [⟨target, iter, ifs, 0⟩] scope pos) 0 it acc env).onRaise (fun x => do noteFrame x env; theTreesLotGoes x)) _ _ s
  refine wpAny_noted ?_
  rw [compTurn_list]
  refine wpAny_bind (wpAny_standAt (wpAny_bind (toE (wpAny_mono (turn n s hI) (fun r s₁ h₁ => ?_) fun _ _ h' => h'))))
  cases r with
  | none => exact wpAny_pure h₁
  | some v =>
    refine wpAny_bind (toE (wpAny_mono h₁ (fun _ s₂ h₂ => ?_) fun _ _ h' => h'))
    refine wpAny_bind (toE (wpAny_mono h₂ (fun _ s₃ h₃ => wpAny_bind (toE (wpAny_mono h₃ (fun ok s₄ h₄ => ?_) fun _ _ h' => h'))) fun _ _ h' => h'))
    cases ok with
    | false => exact wpAny_pure ⟨rfl, h₄⟩
    | true => exact wpAny_bind (wpAny_bind (toE (wpAny_mono h₄ (fun x s₅ h₅ => wpAny_bind (toE (wpAny_mono h₅ (fun _ s₆ h₆ => wpAny_pure (wpAny_pure ⟨rfl, h₆⟩)) fun _ _ h' => h'))) fun _ _ h' => h')))
noncomputable def BindR (two : Bool) (d : D) (l : Loc) : Prop := (two = false ∧ l = [some d]) ∨ ∃ a b, two = true ∧ d = .tup [a, b] ∧ l = [some a, some b]
noncomputable def compG (two : Bool) (tc : Loc → List OD → (Bool → List OD → Prop) → Prop) (te : Loc → List OD → Kt → Prop) : List D → List D → List OD → Kt → Prop
  | [], acc, N, k => k (.lst acc) N
  | d :: ds, acc, N, k => acc.length ≤ 1000000 ∧ ∃ l, BindR two d l ∧ tc l N fun t N => cond t (te l N fun y N => compG two tc te ds (acc ++ [y]) N k) (compG two tc te ds acc N k)
noncomputable def tTrue : CdT := fun c _ N k => k true N
noncomputable def eComp (two : Bool) (it : EvT) (tc : CdT) (te : EvT) : EvT := fun c l N k => it c l N fun d N => ∃ ds, ItOk d ds ∧ compG two (tc c) (te c) ds [] N k
section
variable {c : Cf} {x : Sx} {N : List OD}
/-- a change at one place that is no part of what is known -/
theorem Good.at1 {I : Addr} {h : Heap} {tk : Nat} (G : Good c x N) (hI : I ∈ x.W ∨ NoSeq x.h I) (hz : I ∉ x.zs.flatten) (hL : I ≠ x.L) (hg : x.g.get? I = none) (hl0 : ∃ o, x.h.get? I = some o) (hl : ∃ o, h.get? I = some o) (k : ∀ b o, b ≠ I → x.h.get? b = some o → h.get? b = some o) : Good c (x.up x.zs x.W h x.ge tk) N := by
  have e : Ex [I] x.zs x.W x.h x.zs x.W h := ⟨⟨[], by simp⟩, fun _ m => m, fun _ m => .inl m, fun _ m => .inl m, fun b o n q => k b o (fun r => n (r ▸ .head _)) q, fun b m => .inr (by rw [List.mem_singleton.mp m]; exact ⟨hl0, hl⟩)⟩
  have hF : ∀ b ∈ [I], b ∈ x.W ∨ NoSeq x.h b := fun b m => by rw [List.mem_singleton.mp m]; exact hI
  obtain ⟨m, F, hloc⟩ := G.S.fr
  refine ⟨G.R, G.C, G.E, G.ok, ⟨⟨m, ⟨F.ns.at' fun o q => k _ o (Ne.symm hL) q, fun b o q => k b o (fun r => by rw [r, hg] at q; cases q) (F.keep b o q), F.above⟩, fun i y d a b => ?_⟩, G.S.off, ?_⟩, G.b⟩
  · obtain ⟨v, hv, i⟩ := hloc i y d a b
    exact ⟨v, hv, i.per e hF⟩
  · exact G.S.lg.step e G.S.lg.nd G.S.lg.sub (fun b m => .inl m) G.S.lg.len fun i od z a b => (G.S.lg.obs i od z a b).per e hF fun b' hb o q => k b' o (fun r => hz (r ▸ List.mem_flatten.mpr ⟨z, List.mem_of_getElem? b, hb⟩)) q
/-- the frame of a comprehension's own, within the frame of a def -/
noncomputable abbrev Sx.inn (x : Sx) (env : Env) (C : Addr) (P : Pm) (l : Loc) (zs : Zs) (W : List Addr) (h : Heap) (ge : Array GenState) (tk : Nat) : Sx := ⟨x.A, env, x.g, C, P, l, x.dr, x.os, zs, W, h, ge, tk⟩
structure Cn (c : Cf) (x : Sx) (env : Env) (C Dl I : Addr) (P : Pm) (St : Nat → Heap → Prop) (acc : List D) (j : Nat) (l : Loc) (zs : Zs) (W : List Addr) (h : Heap) (ge : Array GenState) (tk : Nat) (N : List OD) : Prop where
  e : Ex0 x.zs x.W x.h zs W h
  G : Good c (x.up zs W h ge tk) N
  Gi : Good c (x.inn env C P l zs W h ge tk) N
  acc : ∃ vs n, h.get? Dl = some (listOf vs.toArray n) ∧ IsL zs W h acc vs
  st : St j h
  wD : Dl ∈ W
  wI : I ∈ W
  zD : Dl ∉ zs.flatten
  zI : I ∉ zs.flatten
  cW : C ∉ W
variable {env : Env} {C Dl I : Addr} {P : Pm} {St : Nat → Heap → Prop} {acc : List D} {j : Nat} {l l2 : Loc} {zs zs2 : Zs} {W W2 : List Addr} {h h2 : Heap} {ge ge2 : Array GenState} {tk tk2 : Nat} {N1 N2 : List OD} {fp : List Addr} {ds : List D}
/-- an evaluation in the inner frame -/
theorem Cn.move (G0 : Good c x N) (it : Itr c x ds I St fp) (T : Cn c x env C Dl I P St acc j l zs W h ge tk N1) (e : Ex0 zs W h zs2 W2 h2) (G2 : Good c (x.inn env C P l zs2 W2 h2 ge2 tk2) N2) : Cn c x env C Dl I P St acc j l zs2 W2 h2 ge2 tk2 N2 := by
  have live : ∀ b, b ∉ zs.flatten → (∃ o, h.get? b = some o) → b ∉ zs2.flatten := fun b n ⟨o, ho⟩ m => by
    rcases e.nw b m with q | q
    · exact n q
    · rw [ho] at q; cases q
  obtain ⟨vs, n, ha, il⟩ := T.acc
  refine ⟨T.e.trans G0.S.lg.sub e, ⟨T.G.R, T.G.C, T.G.E, T.G.ok, T.G.S.per e G2.S.lg, G2.b⟩, G2, ⟨vs, n, e.kp _ _ T.zD ha, il.per0 e T.G.S.lg.sub⟩, (it.wk x.A G0.R.h).frame _ _ _ T.st fun b hb o q => e.kp b o (fun m => ?_) q, e.sub _ T.wD, e.sub _ T.wI, live _ T.zD ⟨_, ha⟩, live _ T.zI (it.live _ _ T.st), fun m => ?_⟩
  · rcases it.off b hb with rfl | ⟨nW, ⟨o', ho'⟩, nL⟩
    · exact T.zI m
    · rcases T.e.nw b m with q | q
      · exact nW (G0.S.lg.sub b q)
      · rw [ho'] at q; cases q
  · rcases e.new _ m with q | q
    · exact T.cW q
    · obtain ⟨m', F, _⟩ := T.Gi.S.fr
      obtain ⟨o, _, _, ho, _⟩ := F.ns
      rw [ho] at q; cases q
/-- a change at one place of the comprehension's own -/
theorem Cn.at1 {Z : Addr} (G0 : Good c x N) (T : Cn c x env C Dl I P St acc j l zs W h ge tk N1) (hn : x.h.get? Z = none) (hZ : Z ∈ W ∨ NoSeq h Z) (hz : Z ∉ zs.flatten) (hl0 : ∃ o, h.get? Z = some o) (hl : ∃ o, h2.get? Z = some o)
    (k : ∀ b o, b ≠ Z → h.get? b = some o → h2.get? b = some o) : Ex0 x.zs x.W x.h zs W h2 ∧ Good c (x.up zs W h2 ge tk2) N1 := by
  have hg : x.g.get? Z = none := by
    cases q : x.g.get? Z with
    | none => rfl
    | some o => rw [G0.S.sub _ _ q] at hn; cases hn
  refine ⟨⟨T.e.pre, T.e.sub, T.e.new, T.e.nw, fun b o n q => k b o (fun r => by rw [r, hn] at q; cases q) (T.e.kp b o n q), fun b m => .inl m⟩, ?_⟩
  exact Good.at1 (x := x.up zs W h ge tk) T.G hZ hz (fun q => by obtain ⟨o, ho⟩ := G0.liveL; rw [← q, hn] at ho; cases ho) hg hl0 hl k
theorem IsL.kept {zs : Zs} {W W2 : List Addr} {h h' : Heap} {ds : List D} {vs : List Value} (hs : ∀ b ∈ W2, b ∈ W) (k : ∀ b o, b ∉ W → (∀ es n, o.data ≠ .dict es n) → h.get? b = some o → h'.get? b = some o) (i : IsL zs W h ds vs) : IsL zs W2 h' ds vs := ⟨i.1, fun p m => (i.2 p m).kept hs k⟩
/-- what the turns of a comprehension rest on -/
structure Ck (c : Cf) (x : Sx) (env : Env) (C Dl I : Addr) (P : Pm) (St : Nat → Heap → Prop) (two : Bool) (tc : CdT) (te : EvT) (target elt : Expr) (ifs : List Expr) : Prop where
  nC : x.h.get? C = none
  nD : x.h.get? Dl = none
  nI : x.h.get? I = none
  cd : C ≠ Dl
  ci : C ≠ I
  di : Dl ≠ I
  asg : ∀ (y : Sx) d v l' N (Q : Unit → Shared → Prop), y.env = env → y.L = C → y.P = P → Good c y N → y.Is d v → BindR two d l' → (∀ h tk, Keep [C] y.h h → Good c (y.to l' y.zs y.W h y.ge tk) N → Q () ⟨h, y.ge, y.dr, tk, y.os⟩) → wpx c y (assign target env v) Q
  let_ : ∀ j (s : Shared) v (Q : Unit → Shared → Prop), St j s.heap → Q () s → wpAny (model c.prog c.w) x.A (letOwnedTupleGo target (.ref I) v) Q NoE s
  tst : ∀ (y : Sx) N (k : Bool → List OD → Prop), Good c y N → y.P = P → y.env = env → tc c y.l N k → wpx c y (forIn ifs true fun c r => if r = true then do let ok ← isTrue c env (eval c env); pure (ForInStep.yield ok) else pure (ForInStep.yield r)) (PB c y k)
  elt : Snd c P elt te
theorem Cn.nsC (T : Cn c x env C Dl I P St acc j l zs W h ge tk N1) : NoSeq h C ∧ ∃ o, h.get? C = some o := by
  obtain ⟨m, F, _⟩ := T.Gi.S.fr; obtain ⟨o, es, n, ho, hd, _⟩ := F.ns; exact ⟨⟨o, es, n, ho, hd⟩, o, ho⟩
inductive Cns (c : Cf) (x : Sx) (env : Env) (C Dl I : Addr) (P : Pm) (St : Nat → Heap → Prop) (ds : List D) (p : List D → List D → List OD → Prop) (n : Nat) (s : Shared) : Prop
  | mk (acc : List D) (j : Nat) (l : Loc) (zs : Zs) (W : List Addr) (h : Heap) (ge : Array GenState) (tk : Nat) (N : List OD) (en : n = ds.length - j) (hj : j ≤ ds.length) (e : s = ⟨h, ge, x.dr, tk, x.os⟩) (T : Cn c x env C Dl I P St acc j l zs W h ge tk N) (hk : p (ds.drop j) acc N)
theorem comp_loop {two : Bool} {tc : CdT} {te : EvT} {target elt iter : Expr} {ifs : List Expr} {scope : Scope} {pos : Pos} {R : Result → Shared → Prop} {k : Kt} (G0 : Good c x N) (it : Itr c x ds I St fp) (K : Ck c x env C Dl I P St two tc te target elt ifs)
    (T : Cn c x env C Dl I P St acc j l zs W h ge tk N1) (hj : j ≤ ds.length) (hk : compG two (tc c) (te c) (ds.drop j) acc N1 k)
    (hR : ∀ acc l zs W h ge tk N, Ex0 x.zs x.W x.h zs W h → Good c (x.up zs W h ge tk) N → Good c (x.inn env C P l zs W h ge tk) N → (∃ vs n, h.get? Dl = some (listOf vs.toArray n) ∧ IsL zs W h acc vs) → Dl ∉ W → C ∉ W → k (.lst acc) N → R (.ok .next) ⟨h, ge, x.dr, tk, x.os⟩) :
    codeAny (model c.prog c.w) x.A (.compLoop (.ListComp elt [⟨target, iter, ifs, 0⟩] scope pos) 0 (.ref I) (.ref Dl) env) R ⟨h, ge, x.dr, tk, x.os⟩ := by
  refine comp_turns (Cns c x env C Dl I P St ds fun ds acc N => compG two (tc c) (te c) ds acc N k) ?_ (ds.length - j) ⟨acc, j, l, zs, W, h, ge, tk, N1, rfl, hj, rfl, T, hk⟩
  clear T hk hj
  rintro n' s' ⟨acc, j, l, zs, W, h, ge, tk, N1, rfl, hj, rfl, T, hk⟩
  have W' := it.wk x.A G0.R.h
  have gI : ∀ {Z}, x.h.get? Z = none → x.g.get? Z = none := fun {Z} hn => by
    cases q : x.g.get? Z with
    | none => rfl
    | some o => rw [G0.S.sub _ _ q] at hn; cases hn
  by_cases hlt : j < ds.length
  · refine W'.item j ⟨h, ge, x.dr, tk, x.os⟩ _ _ hlt T.st fun v h3 tk3 hp st3 k3 => ?_
    obtain ⟨d, hd, iv⟩ := hp
    have k3' : ∀ b o, b ≠ I → h.get? b = some o → h3.get? b = some o := fun b o n q => k3 b o (fun m => n (List.mem_singleton.mp m)) q
    have l0 := it.live _ _ T.st
    have l3 := it.live _ _ st3
    obtain ⟨e3, G3⟩ := T.at1 (tk2 := tk3) G0 K.nI (.inl T.wI) T.zI l0 l3 k3'
    have Gi3 := Good.at1 (x := x.inn env C P l zs W h ge tk) (tk := tk3) T.Gi (.inl T.wI) T.zI (Ne.symm K.ci) (gI K.nI) l0 l3 k3'
    obtain ⟨vs, n, ha, il⟩ := T.acc
    have T3 : Cn c x env C Dl I P St acc (j + 1) l zs W h3 ge tk3 N1 := ⟨e3, G3, Gi3, ⟨vs, n, k3' _ _ K.di ha, il.kept (fun _ m => m) fun b o nb _ q => k3' b o (fun r => nb (r ▸ T.wI)) q⟩, st3, T.wD, T.wI, T.zD, T.zI, T.cW⟩
    rw [drop_at hd] at hk
    obtain ⟨hsz, l', hb, hk⟩ := hk
    refine K.let_ (j + 1) _ v _ st3 ?_
    refine K.asg (x.inn env C P l zs W h3 ge tk3) d v l' N1 _ rfl rfl rfl Gi3 (iv.per0 e3 G0.S.lg.sub) hb fun h4 tk4 k4 Gi4 => ?_
    have k4' : ∀ b o, b ≠ C → h3.get? b = some o → h4.get? b = some o := fun b o n q => k4 b o (fun m => n (List.mem_singleton.mp m)) q
    obtain ⟨m4, F4, _⟩ := Gi4.S.fr
    obtain ⟨o4, _, _, ho4, _⟩ := F4.ns
    have zC : C ∉ zs.flatten := fun m => (T3.Gi.S.off C m).1 rfl
    obtain ⟨e4, G4⟩ := T3.at1 (tk2 := tk4) G0 K.nC (.inr T3.nsC.1) zC T3.nsC.2 ⟨o4, ho4⟩ k4'
    obtain ⟨vs3, n3, ha3, il3⟩ := T3.acc
    have il4 : IsL zs W h4 acc vs3 := il3.per (F := [C]) ⟨⟨[], by simp⟩, fun _ m => m, fun _ m => .inl m, fun _ m => .inl m, k4, fun b m => .inr (by rw [List.mem_singleton.mp m]; exact ⟨T3.nsC.2, _, ho4⟩)⟩ fun b m => .inr (by rw [List.mem_singleton.mp m]; exact T3.nsC.1)
    have T4 : Cn c x env C Dl I P St acc (j + 1) l' zs W h4 ge tk4 N1 := ⟨e4, G4, Gi4, ⟨vs3, n3, k4' _ _ (Ne.symm K.cd) ha3, il4⟩, W'.frame _ _ _ st3 fun b hb o q => k4' b o (fun r => by
      rcases it.off b hb with rfl | ⟨_, ⟨o', ho'⟩, _⟩
      · exact K.ci r.symm
      · rw [r, K.nC] at ho'; cases ho') q, T.wD, T.wI, T.zD, T.zI, T.cW⟩
    refine PB.bind (K.tst (x.inn env C P l' zs W h4 ge tk4) N1 _ Gi4 rfl rfl hk) fun zs5 W5 h5 ge5 tk5 ok N5 e5 G5 hk5 => ?_
    have T5 := T4.move G0 it e5 G5
    cases ok with
    | false => exact ⟨_, Nat.sub_succ_lt_self _ _ hlt, acc, j + 1, l', zs5, W5, h5, ge5, tk5, N5, rfl, hlt, rfl, T5, hk5⟩
    | true =>
      refine PE.bind (K.elt (x.inn env C P l' zs5 W5 h5 ge5 tk5) N5 _ G5 rfl hk5) fun zs6 W6 h6 ge6 tk6 y dy N6 e6 G6 iy hk6 => ?_
      have T6 := T5.move G0 it e6 G6
      obtain ⟨vs6, n6, ha6, il6⟩ := T6.acc
      refine append_at (s := ⟨h6, ge6, x.dr, tk6, x.os⟩) ha6 (fun h7 sb7 ha7 => ?_) (by rw [List.size_toArray, il6.1]; exact Nat.le_trans hsz (by decide))
      have k7 : ∀ b o, b ≠ Dl → h6.get? b = some o → h7.get? b = some o := fun b o n q => (sb7.2 b n).trans q
      obtain ⟨e7, G7⟩ := T6.at1 (tk2 := tk6) G0 K.nD (.inl T6.wD) T6.zD ⟨_, ha6⟩ ⟨_, ha7⟩ k7
      have Gi7 := Good.at1 (x := x.inn env C P l' zs6 W6 h6 ge6 tk6) (tk := tk6) G6 (.inl T6.wD) T6.zD (Ne.symm K.cd) (gI K.nD) ⟨_, ha6⟩ ⟨_, ha7⟩ k7
      refine ⟨_, Nat.sub_succ_lt_self _ _ hlt, acc ++ [dy], j + 1, l', zs6, W6, h7, ge6, tk6, N6, rfl, hlt, rfl, ⟨e7, G7, Gi7, ⟨vs6 ++ [y], n6 + 1, by rw [ha7]; simp, ?_⟩, W'.frame _ _ _ T6.st fun b hb o q => k7 b o (fun r => by
        rcases it.off b hb with rfl | ⟨_, ⟨o', ho'⟩, _⟩
        · exact K.di r.symm
        · rw [r, K.nD] at ho'; cases ho') q, T6.wD, T6.wI, T6.zD, T6.zI, T6.cW⟩, hk6⟩
      exact (il6.append (.cons iy .nil)).kept (fun _ m => m) fun b o nb _ q => k7 b o (fun r => nb (r ▸ T6.wD)) q
  · have hj' : j = ds.length := Nat.le_antisymm hj (Nat.le_of_not_lt hlt)
    rw [hj', List.drop_length] at hk
    refine W'.done ⟨h, ge, x.dr, tk, x.os⟩ _ _ (hj' ▸ T.st) fun h3 tk3 k3 => ?_
    have k3' : ∀ b o, b ≠ I → h.get? b = some o → h3.get? b = some o := fun b o n q => k3 b o (fun m => n (List.mem_singleton.mp m)) q
    have nL : ∀ {Z}, x.h.get? Z = none → Z ≠ x.L := fun {Z} hn q => by obtain ⟨o, ho⟩ := G0.liveL; rw [← q, hn] at ho; cases ho
    have mD : Dl ∈ W.filter (· != I) := List.mem_filter.mpr ⟨T.wD, by simpa using K.di⟩
    have G3 := Good.dropI (x := x.up zs W h ge tk) (tk := tk3) T.G T.wI T.zI (nL K.nI) (gI K.nI) k3'
    have G4 := Good.dropI (tk := tk3) G3 mD T.zD (nL K.nD) (gI K.nD) (fun _ _ _ q => q)
    have Gi3 := Good.dropI (x := x.inn env C P l zs W h ge tk) (tk := tk3) T.Gi T.wI T.zI (Ne.symm K.ci) (gI K.nI) k3'
    have Gi4 := Good.dropI (tk := tk3) Gi3 mD T.zD (Ne.symm K.cd) (gI K.nD) (fun _ _ _ q => q)
    have hs : ∀ b ∈ (W.filter (· != I)).filter (· != Dl), b ∈ W := fun b m => (List.mem_filter.mp (List.mem_filter.mp m).1).1
    obtain ⟨vs, n, ha, il⟩ := T.acc
    refine hR acc l zs ((W.filter (· != I)).filter (· != Dl)) h3 ge tk3 N1 ⟨T.e.pre, fun b m => ?_, fun b m => T.e.new b (hs b m), T.e.nw, fun b o nb q => k3' b o (fun r => by rw [r, K.nI] at q; cases q) (T.e.kp b o nb q), fun _ m => .inl m⟩ G4 Gi4
      ⟨vs, n, k3' _ _ K.di ha, il.kept hs fun b o nb _ q => k3' b o (fun r => nb (r ▸ T.wI)) q⟩ (fun m => by simpa using (List.mem_filter.mp m).2) (fun m => T.cW (hs _ m)) hk
    obtain ⟨o, ho⟩ := G0.S.lg.live b m
    exact List.mem_filter.mpr ⟨List.mem_filter.mpr ⟨T.e.sub b m, by simpa using fun r : b = I => by rw [r, K.nI] at ho; cases ho⟩, by simpa using fun r : b = Dl => by rw [r, K.nD] at ho; cases ho⟩
end
end

noncomputable section
section
variable {c : Cf} {x : Sx} {N : List OD} {k : Kt}
theorem comp_block {two : Bool} {tc : CdT} {te : EvT} {target elt iter : Expr} {ifs : List Expr} {scope : Scope} {pos : Pos} {d : D} {ds : List D} {v : Value} {P : Pm} {RR : Value → Env → Result → Shared → Prop} (G : Good c x N) (iv : x.Is d v) (it : ItOk d ds) (hk : compG two (tc c) (te c) ds [] N k)
    (hP : P = ⟨scope, P.vs, P.gs⟩) (ok : P.Ok) (hcell : ∀ y ∈ scope.names, y.2 ≠ .cell)
    (asg : ∀ (y : Sx) d v l' N (Q : Unit → Shared → Prop), y.P = P → Good c y N → y.Is d v → BindR two d l' → (∀ h tk, Keep [y.L] y.h h → Good c (y.to l' y.zs y.W h y.ge tk) N → Q () ⟨h, y.ge, y.dr, tk, y.os⟩) → wpx c y (assign target y.env v) Q)
    (let_ : ∀ (I : Addr) (St : Nat → Heap → Prop) (fp : List Addr), Itr c x ds I St fp → ∀ j (s : Shared) v (Q : Unit → Shared → Prop), St j s.heap → Q () s → wpAny (model c.prog c.w) x.A (letOwnedTupleGo target (.ref I) v) Q NoE s)
    (tst : ∀ (y : Sx) N (k : Bool → List OD → Prop), Good c y N → y.P = P → tc c y.l N k → wpx c y (forIn ifs true fun c r => if r = true then do let ok ← isTrue c y.env (eval c y.env); pure (ForInStep.yield ok) else pure (ForInStep.yield r)) (PB c y k))
    (he : Snd c P elt te)
    (hR : ∀ Dl (cenv : Env) zs W h ge tk N acc m, Ex0 x.zs x.W x.h zs W h → Good c (x.up zs W h ge tk) N → Is zs W h (.lst acc) (.ref Dl) → h.Ns cenv.locals m → cenv.locals ∉ zs.flatten → cenv.locals ≠ x.L → x.h.get? cenv.locals = none → cenv.locals ∉ W → k (.lst acc) N → RR (.ref Dl) cenv (.ok .next) ⟨h, ge, x.dr, tk, x.os⟩) :
    wpx c x (pyIter v) (fun it s₂ => wpAny (model c.prog c.w) x.A (newList []) (fun acc s₃ => wpAny (model c.prog c.w) x.A (newFunctionEnv scope x.env.globals [] [] x.env.qual none .none (some x.env)) (fun cenv s₄ =>
      codeAny (model c.prog c.w) x.A (.compStart (.ListComp elt [⟨target, iter, ifs, 0⟩] scope pos) 0 it acc { cenv with scope := scope }) (RR acc { cenv with scope := scope }) s₄) NoE s₃) NoE s₂) := by
  have hk0 : scope.kind = .function := by have := ok.k; rw [hP] at this; exact this
  refine mkItr G it iv fun I St fp h1 tk1 nI k1 itr st0 => ?_
  refine wpAny_newObj_type (hd := by size_fits) (wpAny_newFunctionEnv hcell (by intro y hy; simp at hy) (fun h3 hns hsb => ?_) hk0)
  dsimp only at hns hsb ⊢
  obtain ⟨oI, hoI⟩ := itr.live _ _ st0
  have hIlt := Heap.lt_size hoI
  have kD : Sub h1 (h1.push (listOf #[] 0)) := sub_push
  have sD : (h1.push (listOf #[] 0)).objs.size = h1.objs.size + 1 := Heap.size_push ..
  have kC : Sub (h1.push (listOf #[] 0)) h3 := fun b o e => hsb.extBut b o (Nat.ne_of_lt (Heap.lt_size e)) (Heap.get?_push_of_some _ e)
  generalize hDl : h1.objs.size = Dl at *
  generalize hC : (h1.push (listOf #[] 0)).objs.size = C at *
  have nD : x.h.get? Dl = none := by
    cases q : x.h.get? Dl with
    | none => rfl
    | some o => exact absurd (Heap.lt_size (k1 _ _ q)) (by rw [hDl]; exact Nat.lt_irrefl _)
  have nC : x.h.get? C = none := by
    cases q : x.h.get? C with
    | none => rfl
    | some o => exact absurd (Heap.lt_size (k1 _ _ q)) (by rw [hDl, sD]; exact Nat.not_lt.mpr (Nat.le_succ _))
  have hC' : C = Dl + 1 := sD
  have di : Dl ≠ I := Nat.ne_of_gt hIlt
  have ci : C ≠ I := fun e => absurd hIlt (by rw [← e, hC']; exact Nat.not_lt.mpr (Nat.le_succ _))
  have cd : C ≠ Dl := fun e => Nat.succ_ne_self _ (hC' ▸ e)
  have haD : h3.get? Dl = some (listOf #[] 0) := kC _ _ (by rw [← hDl]; exact Heap.get?_push_size _ rfl)
  obtain ⟨G1, _⟩ := Good.addI (tk := tk1) G nI k1 ⟨oI, hoI⟩
  have nD1 : h1.get? Dl = none := by rw [← hDl]; exact get_new
  obtain ⟨G2, _⟩ := Good.addI (I := Dl) (tk := tk1) G1 nD1 (kD.trans kC) ⟨_, haD⟩
  have k13 : Sub x.h h3 := k1.trans (kD.trans kC)
  have e3 : Ex0 x.zs x.W x.h x.zs (Dl :: I :: x.W) h3 := ⟨⟨[], by simp⟩, fun _ m => .tail _ (.tail _ m), fun b m => by
    rcases List.mem_cons.mp m with rfl | m
    · exact .inr nD
    · rcases List.mem_cons.mp m with rfl | m
      · exact .inr nI
      · exact .inl m, fun _ m => .inl m, fun b o _ q => k13 b o q, fun _ m => .inl m⟩
  have G3 : Good c (x.up x.zs (Dl :: I :: x.W) h3 x.ge (tk1 + ([] : List (Str × Value)).length)) N := ⟨G2.R, G2.C, G2.E, G2.ok, G2.S, G2.b⟩
  have notz : ∀ {Z}, x.h.get? Z = none → Z ∉ x.zs.flatten := fun hn m => by obtain ⟨o, ho⟩ := G.S.lg.live _ (G.S.lg.sub _ m); rw [hn] at ho; cases ho
  have nL : ∀ {Z}, x.h.get? Z = none → Z ≠ x.L := fun {Z} hn q => by obtain ⟨o, ho⟩ := G.liveL; rw [← q, hn] at ho; cases ho
  obtain ⟨mo, Fo, _⟩ := G.S.fr
  generalize hce : ({ newEnv scope C x.env.globals [] x.env.qual none .none (some x.env) builtinsNs with scope := scope } : Env) = cenv
  have hcenv : cenv.locals = C := by rw [← hce]; rfl
  have Gi : Good c (x.inn cenv C P [] x.zs (Dl :: I :: x.W) h3 x.ge (tk1 + ([] : List (Str × Value)).length)) N := by
    refine ⟨G.R, G.C, ⟨by rw [← hce, hP], hcenv, by rw [← hce]; exact G.E.gl, by rw [← hce]; exact G.E.bi⟩, ok, ⟨⟨_, ⟨hns, fun b o e => k13 b o (Fo.keep b o e), ?_⟩, fun i y d a b => by simp at b⟩, fun b m => ⟨fun e => notz nC (by have e' : b = C := e; rw [← e']; exact m), (G.S.off b m).2⟩, G3.S.lg⟩, G.b⟩
    obtain ⟨oL, hoL⟩ := G.liveL
    have hLD : x.L < Dl := by rw [← hDl]; exact Heap.lt_size (k1 _ _ hoL)
    exact Nat.le_trans Fo.above (Nat.le_of_lt (Nat.lt_trans hLD (by rw [hC']; exact Nat.lt_succ_self _)))
  have kf : ∀ b ∈ fp, ∀ o, h1.get? b = some o → h3.get? b = some o := fun b _ o q => kC _ _ (kD _ _ q)
  have st3 : St 0 h3 := (itr.wk x.A G.R.h).frame _ _ _ st0 kf
  have T0 : Cn c x cenv C Dl I P St [] 0 [] x.zs (Dl :: I :: x.W) h3 x.ge (tk1 + ([] : List (Str × Value)).length) N := ⟨e3, G3, Gi, ⟨[], 0, haD, .nil⟩, st3, .head _, .tail _ (.head _), notz nD, notz nI, fun m => by
    rcases List.mem_cons.mp m with r | m
    · exact cd r
    · rcases List.mem_cons.mp m with r | m
      · exact ci r
      · obtain ⟨o, ho⟩ := G.S.lg.live _ m; rw [nC] at ho; cases ho⟩
  have K : Ck c x cenv C Dl I P St two tc te target elt ifs := ⟨nC, nD, nI, cd, ci, di, fun y d v l' N Q he hL hP' Gy iy hb q => by
      rw [← he]; exact asg y d v l' N Q hP' Gy iy hb (by rw [hL]; exact q), let_ I St fp itr, fun y N k Gy hP' he q => by
      rw [← he]; exact tst y N k Gy hP' q, he⟩
  have loop : codeAny (model c.prog c.w) x.A (.compLoop (.ListComp elt [⟨target, iter, ifs, 0⟩] scope pos) 0 (.ref I) (.ref Dl) cenv) (RR (.ref Dl) cenv) ⟨h3, x.ge, x.dr, tk1 + ([] : List (Str × Value)).length, x.os⟩ := by
    refine comp_loop G itr K T0 (Nat.zero_le _) hk fun acc l zs W h ge tk N' e Gf Gif ha nDW nCW hkf => ?_
    obtain ⟨vs, n, ha, il⟩ := ha
    obtain ⟨mi, Fi, _⟩ := Gif.S.fr
    exact hR Dl cenv zs W h ge tk N' acc mi e Gf (.lst ⟨_, ha, rfl, _, rfl⟩ nDW il.1 il.2) (by rw [hcenv]; exact Fi.ns) (fun m => (Gif.S.off _ m).1 hcenv) (by rw [hcenv]; exact nL nC) (by rw [hcenv]; exact nC) (by rw [hcenv]; exact nCW) hkf
  subst hce
  exact codeAny_compStart_list loop ((itr.wk x.A G.R.h).self 0 ⟨h3, x.ge, x.dr, tk1 + ([] : List (Str × Value)).length, x.os⟩ _ _ st3 loop)
theorem Good.blank (G : Good c x N) (n : Nat) : Good c (x.to (List.replicate n none) x.zs x.W x.h x.ge x.tk) N :=
  ⟨G.R, G.C, G.E, G.ok, ⟨let ⟨m, F, _⟩ := G.S.fr; ⟨m, F, fun i y d _ b => by rw [List.getElem?_replicate] at b; split at b <;> simp at b⟩, G.S.off, G.S.lg⟩, G.b⟩
theorem asg1 {n : Str} {px : Pos} {P : Pm} (hv : P.vs = [n]) (y : Sx) (d : D) (v : Value) (l' : Loc) (N : List OD) (Q : Unit → Shared → Prop) (hP : y.P = P) (G : Good c y N) (iv : y.Is d v) (hb : BindR false d l')
    (q : ∀ h tk, Keep [y.L] y.h h → Good c (y.to l' y.zs y.W h y.ge tk) N → Q () ⟨h, y.ge, y.dr, tk, y.os⟩) : wpx c y (assign (.Name n px) y.env v) Q := by
  rcases hb with ⟨_, rfl⟩ | ⟨_, _, e, _⟩
  · exact wpAny_assign_Name (store (x := y.to (List.replicate 1 none) y.zs y.W y.h y.ge y.tk) (G.blank 1) (i := 0) (by show Slot n 0 y.P.vs; rw [hP, hv]; exact .hd) iv fun h tk _ k G' => q h tk k G')
  · cases e
theorem asgT {n1 n2 : Str} {p1 p2 pt : Pos} {kk : Nat} {T : Addr} {v1 v2 : Value} {d1 d2 : D} {i1 i2 : Nat} {y : Sx} {N : List OD} {Q : Unit → Shared → Prop} (G : Good c y N) (s1 : Slot n1 i1 y.P.vs) (s2 : Slot n2 i2 y.P.vs) (hT : y.h.IsTuple T #[v1, v2]) (j1 : y.Is d1 v1) (j2 : y.Is d2 v2)
    (q : ∀ h tk, Keep [y.L] y.h h → Good c (y.to ((y.l.set i1 (some d1)).set i2 (some d2)) y.zs y.W h y.ge tk) N → Q () ⟨h, y.ge, y.dr, tk, y.os⟩) : wpx c y (assign (.Tuple [.Name n1 p1, .Name n2 p2] kk pt) y.env (.ref T)) Q := by
  refine wpAny_assign_Tuple (s := y.s) G.R.h hT rfl rfl fun h3 hx3 => ?_
  have k3 : Sub y.h h3 := ext_sub hx3
  have G3 := G.ext (tk := y.tk) k3
  show wpAny _ y.A (do holding [v2] (assign (.Name n1 p1) y.env v1); do holding [] (assign (.Name n2 p2) y.env v2); pure ()) _ _ ⟨h3, y.ge, y.dr, y.tk, y.os⟩
  have e3 : Ex0 y.zs y.W y.h y.zs y.W h3 := .ofSub k3
  refine wpAny_bind (wpAny_holding (wpAny_assign_Name (store G3 s1 (j1.per0 e3 G.S.lg.sub) fun h4 tk4 e4 k4 G4 => ?_)))
  refine wpAny_bind (wpAny_holding (wpAny_assign_Name (store G4 s2 ((j2.per0 e3 G.S.lg.sub).per e4 G3.S.noSeq) fun h5 tk5 e5 k5 G5 => wpAny_pure ?_)))
  exact q h5 tk5 (fun b o n e => k5 b o n (k4 b o n (k3 b o e))) G5
theorem asg2 {n1 n2 : Str} {p1 p2 pt : Pos} {kk : Nat} {P : Pm} (hv : P.vs = [n1, n2]) (y : Sx) (d : D) (v : Value) (l' : Loc) (N : List OD) (Q : Unit → Shared → Prop) (hP : y.P = P) (G : Good c y N) (iv : y.Is d v) (hb : BindR true d l')
    (q : ∀ h tk, Keep [y.L] y.h h → Good c (y.to l' y.zs y.W h y.ge tk) N → Q () ⟨h, y.ge, y.dr, tk, y.os⟩) : wpx c y (assign (.Tuple [.Name n1 p1, .Name n2 p2] kk pt) y.env v) Q := by
  rcases hb with ⟨e, _⟩ | ⟨a, b, _, rfl, rfl⟩
  · cases e
  · obtain ⟨T, vs, rfl, hT, _, il⟩ := iv.tup'
    obtain ⟨v1, r1, rfl, i1, il⟩ := il.inv
    obtain ⟨v2, r2, rfl, i2, il⟩ := il.inv
    obtain rfl := il.invNil
    refine wpAny_assign_Tuple (s := y.s) G.R.h hT rfl rfl fun h3 hx3 => ?_
    have k3 : Sub y.h h3 := ext_sub hx3
    have G3 := (G.ext (tk := y.tk) k3).blank 2
    have s1 : Slot n1 0 y.P.vs := by rw [hP, hv]; exact .hd
    have s2 : Slot n2 1 y.P.vs := by rw [hP, hv]; exact .tl .hd
    show wpAny _ y.A (do holding [v2] (assign (.Name n1 p1) y.env v1); do holding [] (assign (.Name n2 p2) y.env v2); pure ()) _ _ ⟨h3, y.ge, y.dr, y.tk, y.os⟩
    have e3 : Ex0 y.zs y.W y.h y.zs y.W h3 := .ofSub k3
    refine wpAny_bind (wpAny_holding (wpAny_assign_Name (store G3 s1 (i1.per0 e3 G.S.lg.sub) fun h4 tk4 e4 k4 G4 => ?_)))
    refine wpAny_bind (wpAny_holding (wpAny_assign_Name (store G4 s2 ((i2.per0 e3 G.S.lg.sub).per e4 G3.S.noSeq) fun h5 tk5 e5 k5 G5 => wpAny_pure ?_)))
    exact q h5 tk5 (fun b o n e => k5 b o n (k4 b o n (k3 b o e))) G5
theorem Good.atC {C : Addr} {h : Heap} {tk : Nat} (G : Good c x N) (hW : C ∉ x.W) (hL : C ≠ x.L) (hg : x.g.get? C = none) (hn : NoSeq x.h C) (kC : ∀ b o, b ≠ C → x.h.get? b = some o → h.get? b = some o) : Good c (x.up x.zs x.W h x.ge tk) N := by
  have hz : C ∉ x.zs.flatten := fun m => hW (G.S.lg.sub _ m)
  have kN : ∀ b o, b ∉ x.W → (∀ es n, o.data ≠ .dict es n) → x.h.get? b = some o → h.get? b = some o := fun b o _ nd q => kC b o (fun r => by
    obtain ⟨o', es, n, ho', hd'⟩ := hn; rw [r, ho'] at q; cases q; exact nd _ _ hd') q
  obtain ⟨m, F, hloc⟩ := G.S.fr
  refine ⟨G.R, G.C, G.E, G.ok, ⟨⟨m, ⟨F.ns.at' fun o q => kC _ o (Ne.symm hL) q, fun b o q => kC b o (fun r => by rw [r, hg] at q; cases q) (F.keep b o q), F.above⟩, fun i y d a b => ?_⟩, G.S.off, ?_⟩, G.b⟩
  · obtain ⟨v, hv, i⟩ := hloc i y d a b
    exact ⟨v, hv, i.kept (fun _ m => m) kN⟩
  · refine ⟨G.S.lg.nd, G.S.lg.sub, fun b m => ?_, G.S.lg.len, fun i od z a b => ?_⟩
    · obtain ⟨o, ho⟩ := G.S.lg.live b m; exact ⟨o, kC b o (fun r => hW (r ▸ m)) ho⟩
    · have kz : ∀ b' ∈ z, ∀ o, x.h.get? b' = some o → h.get? b' = some o := fun b' hb o q => kC b' o (fun r => hz (r ▸ List.mem_flatten.mpr ⟨z, List.mem_of_getElem? b, hb⟩)) q
      have q := G.S.lg.obs i od z a b
      cases od with
      | lst ds => obtain ⟨a', vs, n, rfl, ha, hi⟩ := q; exact ⟨a', vs, n, rfl, kz a' (.head _) _ ha, hi.kept (fun _ m => m) kN⟩
      | lex => exact c.X.keep q kz
      | cit => exact c.X.ckeep q kz fun _ _ e => e
/-- the comprehension's end: its frame is let go -/
theorem comp_end {zs W h ge tk h'} {C Dl : Addr} {m} {acc : List D} (G0 : Good c x N) {N1 : List OD} (e : Ex0 x.zs x.W x.h zs W h) (G : Good c (x.up zs W h ge tk) N1) (i : Is zs W h (.lst acc) (.ref Dl)) (hns : h.Ns C m) (hL : C ≠ x.L) (hn : x.h.get? C = none) (hW : C ∉ W) (hk : k (.lst acc) N1)
    (sb : Heap.SameBut C h h') : PE c x k (.ref Dl) ⟨h', ge, x.dr, tk, x.os⟩ := by
  have kC : ∀ b o, b ≠ C → h.get? b = some o → h'.get? b = some o := fun b o n q => sb.extBut b o n q
  obtain ⟨o, es, n, ho, hd, _⟩ := hns
  have hg : x.g.get? C = none := by
    cases q : x.g.get? C with
    | none => rfl
    | some o => rw [G0.S.sub _ _ q] at hn; cases hn
  have kN : ∀ b o, b ∉ W → (∀ es n, o.data ≠ .dict es n) → h.get? b = some o → h'.get? b = some o := fun b o' _ nd q => kC b o' (fun r => by rw [r, ho] at q; cases q; exact nd _ _ hd) q
  exact ⟨zs, W, h', ge, tk, .lst acc, N1, rfl, ⟨e.pre, e.sub, e.new, e.nw, fun b o nb q => kC b o (fun r => by rw [r, hn] at q; cases q) (e.kp b o nb q), fun b m => .inl m⟩, Good.atC (x := x.up zs W h ge tk) G hW hL hg ⟨o, es, n, ho, hd⟩ kC, i.kept (fun _ m => m) kN, hk⟩
end
end

noncomputable section
section
variable {c : Cf} {P P' : Pm} {pos : Pos}
noncomputable abbrev CmpR (c : Cf) (x : Sx) (k : Kt) (RR : Value → Env → Result → Shared → Prop) : Prop := ∀ Dl (cenv : Env) zs W h ge tk N acc m, Ex0 x.zs x.W x.h zs W h → Good c (x.up zs W h ge tk) N → Is zs W h (.lst acc) (.ref Dl) → h.Ns cenv.locals m → cenv.locals ≠ x.L → x.h.get? cenv.locals = none → cenv.locals ∉ W → k (.lst acc) N → RR (.ref Dl) cenv (.ok .next) ⟨h, ge, x.dr, tk, x.os⟩
/-- a comprehension, up to what is done with its list -/
noncomputable def CmpB (c : Cf) (P : Pm) (elt target iter : Expr) (ifs : List Expr) (scope : Scope) (pos : Pos) (t : EvT) : Prop := ∀ (x : Sx) (N : List OD) (k : Kt) (RR : Value → Env → Result → Shared → Prop), Good c x N → x.P = P → t c x.l N k → CmpR c x k RR →
  wpx c x (eval iter x.env) (fun v s₁ => wpAny (model c.prog c.w) x.A (pyIter v) (fun it s₂ => wpAny (model c.prog c.w) x.A (newList []) (fun acc s₃ => wpAny (model c.prog c.w) x.A (newFunctionEnv scope x.env.globals [] [] x.env.qual none .none (some x.env)) (fun cenv s₄ =>
      codeAny (model c.prog c.w) x.A (.compStart (.ListComp elt [⟨target, iter, ifs, 0⟩] scope pos) 0 it acc { cenv with scope := scope }) (RR acc { cenv with scope := scope }) s₄) NoE s₃) NoE s₂) NoE s₁)
structure CompOk (scope : Scope) : Prop where
  free : ∀ y ∈ scope.names, y.2 ≠ .free
  cell : ∀ y ∈ scope.names, y.2 ≠ .cell
  names : ∀ y ∈ scope.names, y.2 = .local → scope.names.lookup y.1 = some .local
  k : scope.kind = .function
theorem CompOk.of {scope : Scope} (h : (scope.names.all fun y => decide (y.2 ≠ .free) && (decide (y.2 ≠ .cell) && (decide (y.2 ≠ .local) || decide (scope.names.lookup y.1 = some .local)))) = true) (k : scope.kind = .function) : CompOk scope := by
  have z := fun y hy => List.all_eq_true.mp h y hy
  simp only [Bool.and_eq_true, Bool.or_eq_true, decide_eq_true_eq] at z
  exact ⟨fun y hy => (z y hy).1, fun y hy => (z y hy).2.1, fun y hy e => (z y hy).2.2.resolve_left (fun n => n e), k⟩
theorem CmpB.one {elt it : Expr} {n : Str} {px : Pos} {scope : Scope} {ti te : EvT} (hi : Snd c P it ti) (hP' : P' = ⟨scope, [n], P'.gs⟩) (ok : P'.Ok) (hs : CompOk scope) (he : Snd c P' elt te) : CmpB c P elt (.Name n px) it [] scope pos (eComp false ti tTrue te) := fun x N k RR G hP h hR => by
  refine PE.bind (hi x N _ G hP h) fun zs W h1 ge tk v d N1 e1 G1 iv hk => ?_
  obtain ⟨ds, hit, hk⟩ := hk
  refine comp_block (RR := RR) G1 iv hit hk (by rw [hP']) ok hs.cell (asg1 (by rw [hP'])) (fun I St fp itr j s v Q st q => itr.letOwn st q) (fun y N k Gy hPy q => wpAny_tests_nil ⟨y.zs, y.W, y.h, y.ge, y.tk, N, rfl, .refl, Gy, q⟩) he ?_
  intro Dl cenv zs2 W2 h2 ge2 tk2 N2 acc m e2 G2 iD hns hz hL hn hCW hkf
  have hn' : x.h.get? cenv.locals = none := by
    cases q : x.h.get? cenv.locals with
    | none => rfl
    | some o =>
      by_cases hm : cenv.locals ∈ x.zs.flatten
      · obtain ⟨o', ho'⟩ := G1.S.lg.live _ (e1.sub _ (G.S.lg.sub _ hm)); rw [hn] at ho'; cases ho'
      · rw [e1.kp _ _ hm q] at hn; cases hn
  exact hR Dl cenv zs2 W2 h2 ge2 tk2 N2 acc m (e1.trans G.S.lg.sub e2) G2 iD hns hL hn' hCW hkf
theorem CmpB.two {elt it cnd : Expr} {n1 n2 : Str} {p1 p2 pt : Pos} {kk : Nat} {scope : Scope} {ti te : EvT} {tc : CdT} (hi : Snd c P it ti) (hP' : P' = ⟨scope, [n1, n2], P'.gs⟩) (ok : P'.Ok) (hs : CompOk scope) (hc : SndC c P' cnd tc) (he : Snd c P' elt te) :
    CmpB c P elt (.Tuple [.Name n1 p1, .Name n2 p2] kk pt) it [cnd] scope pos (eComp true ti tc te) := fun x N k RR G hP h hR => by
  refine PE.bind (hi x N _ G hP h) fun zs W h1 ge tk v d N1 e1 G1 iv hk => ?_
  obtain ⟨ds, hit, hk⟩ := hk
  refine comp_block (RR := RR) G1 iv hit hk (by rw [hP']) ok hs.cell (asg2 (by rw [hP'])) (fun I St fp itr j s v Q st q => itr.letOwn st q) (fun y N k Gy hPy q => wpAny_tests_one (hc y N k Gy hPy q)) he ?_
  intro Dl cenv zs2 W2 h2 ge2 tk2 N2 acc m e2 G2 iD hns hz hL hn hCW hkf
  have hn' : x.h.get? cenv.locals = none := by
    cases q : x.h.get? cenv.locals with
    | none => rfl
    | some o =>
      by_cases hm : cenv.locals ∈ x.zs.flatten
      · obtain ⟨o', ho'⟩ := G1.S.lg.live _ (e1.sub _ (G.S.lg.sub _ hm)); rw [hn] at ho'; cases ho'
      · rw [e1.kp _ _ hm q] at hn; cases hn
  exact hR Dl cenv zs2 W2 h2 ge2 tk2 N2 acc m (e1.trans G.S.lg.sub e2) G2 iD hns hL hn' hCW hkf
theorem Snd.comp {elt target it : Expr} {ifs : List Expr} {scope : Scope} {t : EvT} (B : CmpB c P elt target it ifs scope pos t) (hs : CompOk scope) (hf : ∀ env v, foldedSetIterable it env v = pure v) : Snd c P (.ListComp elt [⟨target, it, ifs, 0⟩] scope pos) t := fun x N k G hP h => by
  refine wpAny_ListComp hs.free hs.k hs.names (wpAny_mono (B x N k (fun acc ce r s' => ∃ m, s'.heap.Ns ce.locals m ∧ ∀ h', Heap.SameBut ce.locals s'.heap h' →
    match r with | .ok _ => PE c x k acc { s' with heap := h' } | .error y => wpAny (model c.prog c.w) x.A (passOn "comprehension.variables-let-go" y ce) (PE c x k) NoE { s' with heap := h' }) G hP h ?_) (fun _ _ z => z) fun _ _ z => z) (hf _)
  intro Dl cenv zs2 W2 h2 ge2 tk2 N2 acc m e2 G2 iD hns hL hn hCW hkf
  exact ⟨m, hns, fun h' sb => comp_end G e2 G2 iD hns hL hn hCW hkf sb⟩
end
section
variable {c : Cf} {P : Pm} {pos spos : Pos} {r : List Stmt} {u : SxT}
theorem SndS.asgC {elt target it : Expr} {ifs : List Expr} {scope : Scope} {t : EvT} {n : Str} {i : Nat} {px : Pos} (hi : Slot n i P.vs) (B : CmpB c P elt target it ifs scope pos t) (hs : CompOk scope) (hf : ∀ env v, foldedSetIterable it env v = pure v)
    (sw : ∀ env : Env, env.scope = P.cs → swapsWith (.ListComp elt [⟨target, it, ifs, 0⟩] scope pos) (some (.Name n px)) spos.line env = pure true) (hr : SndS c P r u) : SndS c P (.Assign [.Name n px] (.ListComp elt [⟨target, it, ifs, 0⟩] scope pos) spos :: r) (sAsg i t u) := fun x N kn kc kr G hP h => by
  subst hP
  refine SndS.next ?_
  rw [exec_Assign_Name_used _ _ _ _ (sw x.env G.E.sc)]
  refine wpAny_bind (wpAny_standAt (wpAny_bind ?_))
  show wpAny _ x.A (do let _ ← comprehension (.ListComp elt [⟨target, it, ifs, 0⟩] scope pos) scope x.env _ (newList []) false (eval it x.env) (some (assign (.Name n px) x.env))) _ _ x.s
  refine wpAny_bind (wpAny_mono (wpAny_comprehension_use (g := ⟨target, it, ifs, 0⟩) (gs := []) (Q := fun _ s' => wpAny (model c.prog c.w) x.A (execs r x.env) (PS c x kn kc kr) NoE s') rfl (hf _) hs.free hs.k hs.names (B x N _ (fun acc ce r' s' => match r' with
          | .ok _ => wpAny (model c.prog c.w) x.A (assign (.Name n px) x.env acc) (fun _ s'' => ∃ m, s''.heap.Ns ce.locals m ∧ ∀ h', Heap.SameBut ce.locals s''.heap h' → wpAny (model c.prog c.w) x.A (execs r x.env) (PS c x kn kc kr) NoE { s'' with heap := h' }) NoE s'
          | .error y => ∃ m, s'.heap.Ns ce.locals m ∧ ∀ h', Heap.SameBut ce.locals s'.heap h' → wpAny (model c.prog c.w) x.A (passOn "comprehension.variables-let-go" y ce) (fun _ s' => wpAny (model c.prog c.w) x.A (execs r x.env) (PS c x kn kc kr) NoE s') NoE { s' with heap := h' }) G rfl h ?_)) (fun _ s' hq => wpAny_pure (wpAny_pure hq)) fun _ _ e => e)
  intro Dl cenv zs2 W2 h2 ge2 tk2 N2 acc m e2 G2 iD hns hL hn hCW hkf
  refine wpAny_assign_Name (store G2 hi iD fun h3 tk3 e3 k3 G3 => ?_)
  have kL : ∀ b o, b ≠ x.L → h2.get? b = some o → h3.get? b = some o := fun b o n q => k3 b o (fun m => n (List.mem_singleton.mp m)) q
  have hns3 : h3.Ns cenv.locals m := hns.at' fun o q => kL _ o hL q
  refine ⟨m, hns3, fun h' sb => ?_⟩
  have kC : ∀ b o, b ≠ cenv.locals → h3.get? b = some o → h'.get? b = some o := fun b o n q => sb.extBut b o n q
  have hg : x.g.get? cenv.locals = none := by
    cases q : x.g.get? cenv.locals with
    | none => rfl
    | some o => rw [G.S.sub _ _ q] at hn; cases hn
  obtain ⟨o, es, n', ho, hd, _⟩ := hns3
  have G4 := Good.atC (tk := tk3) G3 hCW hL hg ⟨o, es, n', ho, hd⟩ kC
  have e23 : ExL x zs2 W2 h3 := ExL.trans (l := x.l) (ge := ge2) (tk := tk2) G (G.toL G2 e2) e3
  have e24 : ExL x zs2 W2 h' := ⟨e23.pre, e23.sub, e23.new, e23.nw, fun b o nb q => kC b o (fun r => by rw [r, hn] at q; cases q) (e23.kp b o nb q), fun b m => (e23.lv b m).imp id fun ⟨⟨o, q⟩, o', q'⟩ => ⟨⟨o, q⟩, o', kC b o' (fun r => by rw [r, hn] at q; cases q) q'⟩⟩
  exact to_lift G e24 (hr _ N2 kn kc kr G4 rfl hkf)
end
end

noncomputable section
noncomputable def toL (xs : Array (Int × Tok)) : List Value := (intItems xs).toList
section
variable {c : Cf} {N : List OD} {k : Kt}
theorem fn1 {f : Value} {d : D} (q : ∀ (x : Sx) v, Good c x N → x.Is d v → wpx c x (call f [v]) (PE c x k)) : FnOk c f [d] N k := fun x vs G il => by
  obtain ⟨v, r, rfl, i, il⟩ := il.inv
  rw [il.invNil]; exact q x v G i
theorem fn2 {f : Value} {d e : D} (q : ∀ (x : Sx) v u, Good c x N → x.Is d v → x.Is e u → wpx c x (call f [v, u]) (PE c x k)) : FnOk c f [d, e] N k := fun x vs G il => by
  obtain ⟨v, r, rfl, i, il⟩ := il.inv
  obtain ⟨u, r, rfl, j, il⟩ := il.inv
  rw [il.invNil]; exact q x v u G i j
theorem FnOk.lenS {s : Str} (h1 : s.length ≤ sizeLine) (hk : k (.int s.length) N) : FnOk c (.builtin "len") [.str s] N k := fn1 fun x v G i => by
  obtain ⟨t, rfl⟩ := i.str'
  exact PyProof.Rows.len_str (by rw [sizeLine_eq] at h1; omega) (.mkT G .int hk)
theorem FnOk.lenL {s : D} {ds : List D} (r : SeqOk N s ds) (h1 : ds.length ≤ sizeLine) (hk : k (.int ds.length) N) : FnOk c (.builtin "len") [s] N k := fn1 fun x v G i => by
  obtain ⟨a, vs, rfl, hl, il⟩ := seqS r G i
  refine call_len_list hl (by rw [sizeLine_eq] at h1; simp [il.1]; omega) ?_
  rw [show vs.toArray.size = ds.length by simp [il.1]]
  exact .mkT G .int hk
theorem FnOk.isInt {i : Int} (hk : k (.bool true) N) : FnOk c (.builtin "isinstance") [.int i, .val (.type "int")] N k := fn2 fun x v u G i j => by
  obtain ⟨t, rfl⟩ := i.int'
  rw [j.val']
  exact IsiPair.int_int (.mkT G .bool hk)
theorem FnOk.isIntL {s : D} {ds : List D} (r : SeqOk N s ds) (hk : k (.bool false) N) : FnOk c (.builtin "isinstance") [s, .val (.type "int")] N k := fn2 fun x v u G i j => by
  obtain ⟨a, vs, rfl, hl, il⟩ := seqS r G i
  rw [j.val']
  obtain ⟨o, ho, hc, _⟩ := hl
  exact IsiPair.list_int ho hc (.mkT G .bool hk)
theorem FnOk.range1 {n : Int} (hk : k (.rng 0 n) N) : FnOk c (.type "range") [.int n] N k := fn1 fun x v G i => by
  obtain ⟨t, rfl⟩ := i.int'
  exact call_range_1 (.mkS G sub_push (.rng (IsRange.new ..) (G.off_new get_new)) hk)
theorem FnOk.range2 {a b : Int} (hk : k (.rng a b) N) : FnOk c (.type "range") [.int a, .int b] N k := fn2 fun x v u G i j => by
  obtain ⟨t, rfl⟩ := i.int'
  obtain ⟨t, rfl⟩ := j.int'
  exact call_range_2 (.mkS G sub_push (.rng (IsRange.new ..) (G.off_new get_new)) hk)
theorem FnOk.count {s t : Str} (hk : k (.int (Txt.count s t)) N) : FnOk c (.builtin "str.count") [.str s, .str t] N k := fn2 fun x v u G i j => by
  obtain ⟨_, rfl⟩ := i.str'
  obtain ⟨_, rfl⟩ := j.str'
  exact SC.count (.mkT G .int hk)
theorem FnOk.join {s : Str} {o : D} {ys : List Str} (r : SeqOk N o (ys.map .str)) (h1 : s.length ≤ 16) (hw : (ys.map (·.length)).sum + ys.length ≤ 1048576) (hk : k (.str (Txt.join s ys)) N) : FnOk c (.builtin "str.join") [.str s, o] N k := fn2 fun x v u G i j => by
  obtain ⟨_, rfl⟩ := i.str'
  obtain ⟨a, vs, rfl, hl, il⟩ := seqS r G j
  exact join_listW hl (by simpa using il.strs) h1 hw fun _ _ => .mkT G .str hk
theorem GetOk.count {s : Str} : GetOk c (.str s) "count" N (.builtin "str.count") := fun x v pl Q G i h => by
  obtain ⟨_, rfl⟩ := i.str'; exact GM.count h
theorem GetOk.split {s : Str} : GetOk c (.str s) "split" N (.builtin "str.split") := fun x v pl Q G i h => by
  obtain ⟨_, rfl⟩ := i.str'; exact GM.split h
theorem GetOk.join {s : Str} : GetOk c (.str s) "join" N (.builtin "str.join") := fun x v pl Q G i h => by
  obtain ⟨_, rfl⟩ := i.str'; exact GM.join h
theorem GetOk.replace {s : Str} : GetOk c (.str s) "replace" N (.builtin "str.replace") := fun x v pl Q G i h => by
  obtain ⟨_, rfl⟩ := i.str'; exact GM.replace h
theorem GetOk.append {i : Nat} {ds : List D} (e : N[i]? = some (.lst ds)) : GetOk c (.ob i) "append" N (.builtin "list.append") := fun x v pl Q G i' h => by
  obtain ⟨a, vs, n, rfl, _, ha, _⟩ := G.lstAt e i'
  exact Calls.getMethod_list_append ha rfl rfl h
theorem FnOk.split {s t : Str} (h1 : (t.length == 0) = false) (h2 : s.length + 2 ≤ sizeLine) (hk : k (.lst ((Txt.split s t).map .str)) N) : FnOk c (.builtin "str.split") [.str s, .str t] N k := fn2 fun x v w G i j => by
  obtain ⟨u, rfl⟩ := i.str'
  obtain ⟨u', rfl⟩ := j.str'
  have F0 : ∀ h', Sub x.h h' → True := fun _ _ => trivial
  have fin : ∀ (l : List (Str × Tok)) tk', l.map (·.1) = Txt.split s t → PE c x k (.ref x.h.objs.size) ⟨x.h.push { cls := .type "list", data := .seq (strValues l).toArray }, x.ge, x.dr, tk', x.os⟩ := fun l tk' e => by
    refine .mkS G sub_push (.lst ⟨_, Heap.get?_push_size _ rfl, rfl, _, rfl⟩ (G.off_new get_new) (by simp [strValues, ← e]) ?_) hk
    rw [← e]
    clear e hk
    generalize x.h.push _ = h0
    induction l with
    | nil => intro p m; cases m
    | cons a r ih => intro p m; rcases List.mem_cons.mp m with rfl | m
                     · exact .str
                     · exact ih p m
  have e1 := StrLaws.occ_length_le s t 0 s.length (s.length + 1)
  have hn : (Builtin.Str.partsBetween s (Builtin.Str.occurrences s t 0 s.length (s.length + 1)) t.length).length ≤ sizeLine := by
    rw [length_partsBetween]; omega
  cases q : (decide (s.length < t.length) || decide (Builtin.Str.strKind s < Builtin.Str.strKind t))
  · cases hf : (Builtin.Str.occurrences s t 0 s.length (s.length + 1)).isEmpty
    · refine call_meets F.slot_str_split (typeIs_str _ _ _) F.entry_str_split (F.args_str_split_2 _ _) (meets_str_split_sep s t u u' q h1 hf (by omega) hn) ?_
      show wants (PE c x k) NoE _ _
      rw [strsFrom_eq]
      exact fin (numbered _ _) _ ((numbered_texts _ _).trans ((if_neg (ne_true_of_eq_false q)).trans (if_neg (ne_true_of_eq_false hf))).symm)
    · exact call_meets F.slot_str_split (typeIs_str _ _ _) F.entry_str_split (F.args_str_split_2 _ _) (meets_str_split_not_found s t u u' q h1 hf) (fin [(s, u)] _ ((if_neg (ne_true_of_eq_false q)).trans (if_pos hf)).symm)
  · exact call_meets F.slot_str_split (typeIs_str _ _ _) F.entry_str_split (F.args_str_split_2 _ _) (meets_str_split_cannot_occur s t u u' q) (fin [(s, u)] _ (if_pos q).symm)
theorem IsL.intItems {zs W h} : ∀ {ns : List Int} {vs : List Value}, IsL zs W h (ns.map .int) vs → ∃ xs : Array (Int × Tok), vs.toArray = intItems xs ∧ xs.toList.map (·.1) = ns
  | [], _, i => by rw [i.invNil]; exact ⟨#[], by simp [PySem.intItems], rfl⟩
  | n :: r, _, i => by
    obtain ⟨v, u, rfl, a, b⟩ := IsL.inv i
    obtain ⟨t, rfl⟩ := a.int'
    obtain ⟨xs, e, f⟩ := b.intItems
    refine ⟨((n, t) :: xs.toList).toArray, ?_, by simp [f]⟩
    have e' : u = (Mine.toL xs) := by simpa [Mine.toL] using congrArg Array.toList e
    simp [PySem.intItems, e', Mine.toL]
theorem FnOk.sum {s : D} {ns : List Int} (r : SeqOk N s (ns.map .int)) (hk : k (.int ns.sum) N) : FnOk c (.builtin "sum") [s] N k := fn1 fun x v G i => by
  obtain ⟨a, vs, rfl, hl, il⟩ := seqS r G i
  obtain ⟨xs, e, f⟩ := il.intItems
  rw [e] at hl
  refine sum_intListG G.R.h hl fun h' tk t' kp => ?_
  rw [preSum_eq, List.take_of_length_le (by simp), f]
  exact .mkS G kp .int hk
end
end

noncomputable section
section
variable {c : Cf} {N : List OD} {k : Kt}
theorem flat_apart {zs : Zs} (nd : zs.flatten.Nodup) {i j : Nat} {y z : List Addr} {a : Addr} (ij : i ≠ j) (hi : zs[i]? = some y) (hj : zs[j]? = some z) (my : a ∈ y) (mz : a ∈ z) : False := by
  have p := (List.pairwise_flatten.mp nd).2
  have p := List.pairwise_iff_getElem.mp p
  obtain ⟨li, ei⟩ := List.getElem?_eq_some_iff.mp hi
  obtain ⟨lj, ej⟩ := List.getElem?_eq_some_iff.mp hj
  rcases Nat.lt_or_gt_of_ne ij with q | q
  · exact p i j li lj q a (ei ▸ my) a (ej ▸ mz) rfl
  · exact p j i lj li q a (ej ▸ mz) a (ei ▸ my) rfl
theorem FnOk.append {i : Nat} {ds : List D} {d : D} (e : N[i]? = some (.lst ds)) (h1 : ds.length ≤ sizeLine) (hk : k .none (N.set i (.lst (ds ++ [d])))) : FnOk c (.builtin "list.append") [.ob i, d] N k := fn2 fun x v u G i' j => by
  obtain ⟨a, vs, n, rfl, hz, ha, il⟩ := G.lstAt e i'
  refine append_at ha (fun h' sb hh => ?_) (by simpa [il.1] using h1)
  have ma : a ∈ x.zs.flatten := List.mem_flatten.mpr ⟨[a], List.mem_of_getElem? hz, List.mem_singleton.mpr rfl⟩
  have e0 : Ex0 x.zs x.W x.h x.zs x.W h' := ⟨⟨[], by simp⟩, fun _ m => m, fun _ m => .inl m, fun _ m => .inl m, fun b o nb q => sb.extBut b o (fun r => nb (r ▸ ma)) q, fun b m => .inl m⟩
  have lg : Lg c.X x.zs x.W h' (N.set i (.lst (ds ++ [d]))) := by
    refine G.S.lg.step e0 G.S.lg.nd G.S.lg.sub (fun _ m => .inl m) (by simp [G.S.lg.len]) fun j od z ho hj => ?_
    by_cases q : i = j
    · subst q
      rw [List.getElem?_set_self (List.getElem?_eq_some_iff.mp e).1] at ho
      cases ho
      rw [hz] at hj; cases hj
      refine ⟨a, vs ++ [u], n + 1, rfl, by rw [hh]; simp, (il.per0 e0 G.S.lg.sub).append (.cons (j.per0 e0 G.S.lg.sub) .nil)⟩
    · rw [List.getElem?_set_ne q] at ho
      exact (G.S.lg.obs j od z ho hj).per e0 (fun b m => .inl (G.S.lg.sub b m)) fun b m o ho => sb.extBut b o (fun r => flat_apart G.S.lg.nd q hz hj (r ▸ List.mem_singleton.mpr rfl) m) ho
  exact ⟨x.zs, x.W, h', x.ge, x.tk, .none, _, rfl, e0, ⟨G.R, G.C, G.E, G.ok, G.S.per e0 lg, G.b⟩, .none, hk⟩
end
end

noncomputable section
section
variable {c : Cf} {N : List OD} {k : Kt}
theorem FnOk.max1 {s : D} {ns : List Int} (r : SeqOk N s (ns.map .int)) (h1 : 0 < ns.length) (hk : ∀ M, M ∈ ns → (∀ a, a ∈ ns → a ≤ M) → k (.int M) N) : FnOk c (.builtin "max") [s] N k := fn1 fun x v G i => by
  obtain ⟨a, vs, rfl, hl, il⟩ := seqS r G i
  obtain ⟨xs, e, hns⟩ := il.intItems
  rw [e] at hl
  have hsz : 0 < xs.size := by rw [← hns, List.length_map, Array.length_toList] at h1; exact h1
  refine max_intList G.R.h hl hsz fun v h' tk hv kp => ?_
  obtain ⟨t, rfl⟩ := intItems_at hv
  obtain ⟨_, h2⟩ := argBest_gt (numAt xs) (xs.size - 1)
  have h3 := (argBest_gt (numAt xs) (xs.size - 1)).1
  refine .mkS G kp .int (hk _ ?_ fun a ha => ?_)
  · rw [← hns, numAt_eq]; exact getD_mem (by rw [List.length_map, Array.length_toList]; omega)
  · rw [← hns] at ha
    obtain ⟨j, hj, rfl⟩ := mem_getD ha
    rw [List.length_map, Array.length_toList] at hj
    rw [← numAt_eq]; exact h2 j (by omega)
theorem FnOk.min1 {s : D} {ns : List Int} (r : SeqOk N s (ns.map .int)) (h1 : 0 < ns.length) (hk : ∀ M, M ∈ ns → (∀ a, a ∈ ns → M ≤ a) → k (.int M) N) : FnOk c (.builtin "min") [s] N k := fn1 fun x v G i => by
  obtain ⟨a, vs, rfl, hl, il⟩ := seqS r G i
  obtain ⟨xs, e, hns⟩ := il.intItems
  rw [e] at hl
  have hsz : 0 < xs.size := by rw [← hns, List.length_map, Array.length_toList] at h1; exact h1
  refine min_intList G.R.h hl hsz fun v h' tk hv kp => ?_
  obtain ⟨t, rfl⟩ := intItems_at hv
  obtain ⟨_, h2⟩ := argBest_lt (numAt xs) (xs.size - 1)
  have h3 := (argBest_lt (numAt xs) (xs.size - 1)).1
  refine .mkS G kp .int (hk _ ?_ fun a ha => ?_)
  · rw [← hns, numAt_eq]; exact getD_mem (by rw [List.length_map, Array.length_toList]; omega)
  · rw [← hns] at ha
    obtain ⟨j, hj, rfl⟩ := mem_getD ha
    rw [List.length_map, Array.length_toList] at hj
    rw [← numAt_eq]; exact h2 j (by omega)
theorem IsL.ofInts {zs W h} : ∀ {vs : List Value} {ns : List Int}, IntsAre vs ns → IsL zs W h (ns.map .int) vs
  | _, _, .nil => .nil
  | _, _, .cons _ _ r => .cons .int (IsL.ofInts r)
theorem FnOk.sorted {s : D} {ns : List Int} (r : SeqOk N s (ns.map .int)) (h1 : ns.length < 64) (hk : ∀ ms : List Int, ms.Perm ns → ms.Pairwise (· ≤ ·) → k (.lst (ms.map .int)) N) : FnOk c (.builtin "sorted") [s] N k := fn1 fun x v G i => by
  obtain ⟨a, vs, rfl, hl, il⟩ := seqS r G i
  refine sorted_ints hl il.ints (by rw [il.1]; simpa using h1) fun out ms a1 a2 a3 => ?_
  obtain ⟨e, he⟩ := sortedAll_at x.h vs out
  refine .mkS G (fun b o q => sortedAll_old q) (.lst (vs := out.toList) ⟨_, he, rfl, _, rfl⟩ (fun m => ?_) (IsL.ofInts a1 (zs := x.zs) (W := x.W) (h := sortedAll x.h vs out)).1 (IsL.ofInts a1).2) (hk ms a2 a3)
  obtain ⟨o, ho⟩ := G.S.lg.live _ m
  exact absurd (Heap.lt_size ho) (by simp)
end
end

-- floats: sixty-fourths
noncomputable section
section
open Float64
noncomputable def fl (k : Nat) : UInt64 := ofFrac false k 64
theorem V_inj {t u : Nat} (h : V t = V u) : t = u := by
  rcases Nat.lt_trichotomy t u with q | q | q
  · exact absurd (V_lt q) (by (first | lia | omega))
  · exact q
  · exact absurd (V_lt q) (by (first | lia | omega))
theorem right_exact {r : UInt64} {neg : Bool} {W D t : Nat} (h : Right r neg W D) (hD : 0 < D) (hW : W = D * V t) (ht : t < infMag) (hl : V t < 2 ^ 2000) : r = pack neg t := by
  obtain ⟨u, rfl, hu, ho, hn⟩ := h
  have hu' : u < infMag := Nat.lt_of_le_of_ne hu fun e => by
    have := ho.mp e
    rw [hW] at this
    have := Nat.le_of_mul_le_mul_left (Nat.mul_left_comm 2 D (V t) ▸ this) hD
    have e2 : (2 ^ 54 - 1) * 2 ^ 2045 > 2 * 2 ^ 2000 := by decide +kernel
    (first | lia | omega)
  have := (hn hu' t).1
  have z : dist W (D * V t) = 0 := by rw [hW]; unfold dist; (first | lia | omega)
  rw [z] at this
  have e : W = D * V u := by unfold dist at this; (first | lia | omega)
  have e3 : V u = V t := Nat.eq_of_mul_eq_mul_left hD (e.symm.trans hW)
  rw [V_inj e3]
structure Fx (x : UInt64) (k : Nat) : Prop where
  d : ∃ m e, decode x = .fin false m e
  v : val x = (k * 2 ^ 1067 : Nat)
  t : ∃ t, x = pack false t ∧ t < infMag ∧ V t = k * 2 ^ 1067
noncomputable def finB (x : UInt64) (k : Nat) : Bool := match decode x with
  | .fin false m e => m * 2 ^ (e + 1074).toNat == k * 2 ^ 1067 && x == pack false (x.toNat) && decide (x.toNat < infMag)
  | _ => false
theorem Fx.of {x k} (h : finB x k = true) : Fx x k := by
  unfold finB at h
  split at h
  · rename_i m e hd
    simp only [Bool.and_eq_true, beq_iff_eq, decide_eq_true_eq] at h
    have hv : val x = (k * 2 ^ 1067 : Nat) := by rw [val_eq hd, h.1.1]; rfl
    refine ⟨⟨m, e, hd⟩, hv, x.toNat, h.1.2, h.2, ?_⟩
    rw [h.1.2, val_pack false h.2] at hv
    exact Int.ofNat.inj hv
  · cases h
theorem fl_tab : ((List.range 200).all fun k => finB (fl k) (2 * k)) = true := by decide +kernel
theorem fl_fin {k : Nat} (h : k < 200) : Fx (fl k) (2 * k) := .of (List.all_eq_true.mp fl_tab k (List.mem_range.mpr h))
theorem pow_lt' {k : Nat} (h : k < 400) : k * 2 ^ 1067 < 2 ^ 2000 := by
  have e : 400 * 2 ^ 1067 < 2 ^ 2000 := by decide +kernel
  exact Nat.lt_of_le_of_lt (Nat.mul_le_mul_right _ (Nat.le_of_lt h)) e
theorem fin_eq {r x : UInt64} {k W D : Nat} (h : Right r false W D) (f : Fx x k) (hk : k < 400) (hD : 0 < D) (hW : W = D * (k * 2 ^ 1067)) : r = x := by
  obtain ⟨t, rfl, ht, hv⟩ := f.t
  exact right_exact h hD (by rw [hv]; exact hW) ht (by rw [hv]; exact pow_lt' hk)
theorem fl_add {a b : Nat} (h : a + b < 200) : Float64.add (fl a) (fl b) = fl (a + b) := by
  have fa := fl_fin (k := a) (by (first | lia | omega))
  have fb := fl_fin (k := b) (by (first | lia | omega))
  obtain ⟨_, _, da⟩ := fa.d
  obtain ⟨_, _, db⟩ := fb.d
  have r := add_right da db
  rw [fa.v, fb.v] at r
  by_cases z : a + b = 0
  · obtain ⟨rfl, rfl⟩ : a = 0 ∧ b = 0 := by (first | lia | omega)
    exact (r.1 (by simp)).trans (by decide +kernel)
  · have r2 := r.2 (by have : 0 < (2 : Nat) ^ 1067 := Nat.two_pow_pos _; rw [← Int.natCast_add, ← Nat.add_mul]; exact Int.ofNat_ne_zero.mpr (Nat.ne_of_gt (Nat.mul_pos (by (first | lia | omega)) this)))
    rw [← Int.natCast_add, ← Nat.add_mul, Int.natAbs_natCast, show decide ((((2 * a + 2 * b) * 2 ^ 1067 : Nat) : Int) < 0) = false from decide_eq_false (Int.not_lt.mpr (Int.natCast_nonneg _))] at r2
    exact fin_eq r2 (fl_fin h) (by (first | lia | omega)) (by decide) (by rw [Nat.one_mul, Nat.mul_add])
theorem fl_sub {a b : Nat} (h : b ≤ a) (h2 : a < 200) : Float64.sub (fl a) (fl b) = fl (a - b) := by
  have fa := fl_fin (k := a) h2
  have fb := fl_fin (k := b) (by (first | lia | omega))
  obtain ⟨_, _, da⟩ := fa.d
  obtain ⟨_, _, db⟩ := fb.d
  have r := sub_right da db
  rw [fa.v, fb.v] at r
  have e : ((2 * a * 2 ^ 1067 : Nat) : Int) - (2 * b * 2 ^ 1067 : Nat) = (2 * (a - b) * 2 ^ 1067 : Nat) := by
    rw [Nat.mul_sub, Nat.sub_mul, Int.ofNat_sub (Nat.mul_le_mul_right _ (Nat.mul_le_mul_left _ h))]
  rw [e] at r
  by_cases z : a - b = 0
  · rw [z]; exact (r.1 (by rw [z]; simp)).trans (by decide +kernel)
  · have r2 := r.2 (Int.ofNat_ne_zero.mpr (Nat.ne_of_gt (Nat.mul_pos (by (first | lia | omega)) (Nat.two_pow_pos _))))
    rw [Int.natAbs_natCast, show decide (((2 * (a - b) * 2 ^ 1067 : Nat) : Int) < 0) = false from decide_eq_false (Int.not_lt.mpr (Int.natCast_nonneg _))] at r2
    exact fin_eq r2 (fl_fin (by (first | lia | omega))) (by (first | lia | omega)) (by decide) (by rw [Nat.one_mul])
theorem fl_cmp {a b : Nat} (ha : a < 200) (hb : b < 200) : Float64.cmp (fl a) (fl b) = some (compare (a : Int) (b : Int)) := by
  have fa := fl_fin ha
  have fb := fl_fin hb
  obtain ⟨_, _, da⟩ := fa.d
  obtain ⟨_, _, db⟩ := fb.d
  rw [cmp_right da db, fa.v, fb.v]
  have hp : (0 : Int) < ((2 * 2 ^ 1067 : Nat) : Int) := Int.natCast_pos.mpr (Nat.mul_pos (by decide) (Nat.two_pow_pos _))
  have e : ∀ a : Nat, ((2 * a * 2 ^ 1067 : Nat) : Int) = a * ((2 * 2 ^ 1067 : Nat) : Int) := fun a => by rw [← Int.natCast_mul, Nat.mul_comm 2 a, Nat.mul_assoc]
  rw [e a, e b]
  congr 1
  rcases Int.lt_trichotomy (a : Int) b with h | h | h
  · rw [Int.compare_eq_lt.mpr h, Int.compare_eq_lt.mpr (Int.mul_lt_mul_of_pos_right h hp)]
  · rw [h]; simp
  · rw [Int.compare_eq_gt.mpr h, Int.compare_eq_gt.mpr (Int.mul_lt_mul_of_pos_right h hp)]
theorem fl_eq {a b : Nat} (ha : a < 200) (hb : b < 200) : (Float64.cmp (fl a) (fl b) == some Ordering.eq) = decide (a = b) := by
  rw [fl_cmp ha hb]
  by_cases h : a = b
  · subst h; simp
  · have h2 : compare (a : Int) b ≠ .eq := fun e => h (Int.ofNat.inj (Int.compare_eq_eq.mp e))
    cases q : compare (a : Int) b <;> simp_all
theorem fl_lt {a b : Nat} (ha : a < 200) (hb : b < 200) : (Float64.cmp (fl a) (fl b) == some Ordering.lt) = decide (a < b) := by
  rw [fl_cmp ha hb]
  by_cases h : a < b
  · rw [Int.compare_eq_lt.mpr (Int.ofNat_lt.mpr h), decide_eq_true h]; rfl
  · rw [decide_eq_false h]
    have h2 : compare (a : Int) b ≠ .lt := fun e => h (Int.ofNat_lt.mp (Int.compare_eq_lt.mp e))
    cases q : compare (a : Int) b <;> simp_all
theorem fl_isZero : ∀ {k : Nat}, k < 200 → 0 < k → ¬ Float64.isZero (fl k) = true := by
  have h : ((List.range 200).all fun k => decide (k = 0) || !(Float64.isZero (fl k))) = true := by decide +kernel
  intro k hk h0
  have := List.all_eq_true.mp h k (List.mem_range.mpr hk)
  simp only [Bool.or_eq_true, decide_eq_true_eq, Bool.not_eq_true'] at this
  rcases this with q | q
  · (first | lia | omega)
  · rw [q]; exact Bool.false_ne_true
theorem fl_twice {s : Nat} (h : s < 129) : Float64.mul (fl 128) (Float64.div (fl s) (fl 128)) = fl s := by
  have h' : ((List.range 129).all fun s => Float64.mul (fl 128) (Float64.div (fl s) (fl 128)) == fl s) = true := by decide +kernel
  simpa using List.all_eq_true.mp h' s (List.mem_range.mpr h)
theorem fl_ans {s : Nat} (h : s < 65) (j : Int) : (Float64.cmpInt (Float64.mul (fl s) (Float64.ofInt 64)) j != some Ordering.eq) = !decide ((s : Int) = j) := by
  have h' : ((List.range 65).all fun s => finB (Float64.mul (fl s) (Float64.ofInt 64)) (128 * s)) = true := by decide +kernel
  have f := Fx.of (List.all_eq_true.mp h' s (List.mem_range.mpr h))
  obtain ⟨_, _, d⟩ := f.d
  rw [cmpInt_right d, f.v]
  have e : ((128 * s * 2 ^ 1067 : Nat) : Int) = s * 2 ^ 1074 := by
    rw [show (2 : Nat) ^ 1067 = 2 ^ 1067 from rfl, Nat.mul_comm 128 s, Nat.mul_assoc, show (128 : Nat) * 2 ^ 1067 = 2 ^ 1074 by decide +kernel, Int.natCast_mul]; rfl
  rw [e]
  have hp : (0 : Int) < 2 ^ 1074 := by decide +kernel
  by_cases q : (s : Int) = j
  · subst q; simp
  · have : compare ((s : Int) * 2 ^ 1074) (j * 2 ^ 1074) ≠ .eq := fun e => q (Int.eq_of_mul_eq_mul_right (Int.ne_of_gt hp) (Int.compare_eq_eq.mp e))
    cases z : compare ((s : Int) * 2 ^ 1074) (j * 2 ^ 1074) <;> simp_all
theorem fl_pos {a b : Nat} (ha : 0 < a) (ha2 : a < 200) (hb : 0 < b) (hb2 : b < 200) : (Float64.cmp (Float64.div (fl a) (fl b)) (fl 0) == some Ordering.gt) = true := by
  have fa := fl_fin ha2
  have fb := fl_fin hb2
  obtain ⟨_, _, da⟩ := fa.d
  obtain ⟨_, _, db⟩ := fb.d
  have kp : 0 < (2 : Nat) ^ 1067 := Nat.two_pow_pos _
  have hk : ∀ {m e}, decode (fl b) = .fin false m e → m ≠ 0 := fun hd hm => by
    have := val_natAbs hd
    rw [hm, Nat.zero_mul, fb.v, Int.natAbs_natCast] at this
    exact absurd this (Nat.ne_of_gt (Nat.mul_pos (by (first | lia | omega)) kp))
  have r := div_right da db (hk db)
  rw [fa.v, fb.v, Int.natAbs_natCast, Int.natAbs_natCast] at r
  obtain ⟨t, e, ht, ho, hn⟩ := r
  have hD : 0 < 2 * b * 2 ^ 1067 := Nat.mul_pos (by (first | lia | omega)) kp
  have ht' : t < infMag := Nat.lt_of_le_of_ne ht fun q => by
    have := ho.mp q
    have e1 : (2 : Nat) * 2 ^ 1067 * ((2 ^ 54 - 1) * 2 ^ 2045) ≤ 2 * b * 2 ^ 1067 * ((2 ^ 54 - 1) * 2 ^ 2045) := Nat.mul_le_mul_right _ (Nat.mul_le_mul_right _ (by (first | lia | omega)))
    have e2 : 2 * (2 * a * 2 ^ 1067 * 2 ^ 1074) ≤ 2 * (400 * 2 ^ 1067 * 2 ^ 1074) := Nat.mul_le_mul_left _ (Nat.mul_le_mul_right _ (Nat.mul_le_mul_right _ (by (first | lia | omega))))
    have e3 : 2 * (400 * 2 ^ 1067 * 2 ^ 1074) < (2 : Nat) * 2 ^ 1067 * ((2 ^ 54 - 1) * 2 ^ 2045) := by decide +kernel
    (first | lia | omega)
  have tp : t ≠ 0 := fun q => by
    subst q
    have := (hn ht' 1).1
    rw [V_zero, Nat.mul_zero, show V 1 = 1 by decide +kernel, Nat.mul_one] at this
    have e4 : 2 * b * 2 ^ 1067 ≤ 2 * a * 2 ^ 1067 * 2 ^ 1074 := by
      have : (2 * a * 2 ^ 1067) * 400 ≤ 2 * a * 2 ^ 1067 * 2 ^ 1074 := Nat.mul_le_mul_left _ (by decide +kernel)
      have e5 : 2 * b * 2 ^ 1067 ≤ (2 * a * 400) * 2 ^ 1067 := Nat.mul_le_mul_right _ (by (first | lia | omega))
      rw [Nat.mul_right_comm (2 * a) 400] at e5
      (first | lia | omega)
    unfold dist at this
    (first | lia | omega)
  rw [e]
  obtain ⟨m, ex, hd, _⟩ := decode_pack (false != false) ht'
  have f0 := fl_fin (k := 0) (by decide)
  obtain ⟨_, _, d0⟩ := f0.d
  rw [cmp_right hd d0, f0.v, val_pack _ ht']
  have : V 0 < V t := V_lt (Nat.pos_of_ne_zero tp)
  rw [V_zero] at this
  have : compare (sgn (false != false) (V t)) ((2 * 0 * 2 ^ 1067 : Nat) : Int) = .gt := Int.compare_eq_gt.mpr (by
    rw [Nat.mul_zero, Nat.zero_mul]
    exact Int.natCast_pos.mpr this)
  rw [this]
  rfl
theorem fl_div {n : Int} (h0 : 0 ≤ n) (h : n < 200) : Float64.ofFrac (decide (n < 0) != decide ((64 : Int) < 0)) n.natAbs (64 : Int).natAbs = fl n.toNat := by
  obtain ⟨k, rfl⟩ := Int.eq_ofNat_of_zero_le h0
  rfl
end
end

noncomputable section
noncomputable def tokTab : List (Str × Int) := [(Str.ofString "!", 54), (Str.ofString "!=", 28), (Str.ofString "%", 24), (Str.ofString "%=", 40), (Str.ofString "&", 19), (Str.ofString "&=", 41), (Str.ofString "(", 7), (Str.ofString ")", 8), (Str.ofString "*", 16), (Str.ofString "**", 35), (Str.ofString "**=", 46), (Str.ofString "*=", 38), (Str.ofString "+", 14), (Str.ofString "+=", 36), (Str.ofString ",", 12), (Str.ofString "-", 15), (Str.ofString "-=", 37), (Str.ofString "->", 51), (Str.ofString ".", 23), (Str.ofString "...", 52), (Str.ofString "/", 17), (Str.ofString "//", 47), (Str.ofString "//=", 48), (Str.ofString "/=", 39), (Str.ofString ":", 11), (Str.ofString ":=", 53), (Str.ofString ";", 13), (Str.ofString "<", 20), (Str.ofString "<<", 33), (Str.ofString "<<=", 44), (Str.ofString "<=", 29), (Str.ofString "=", 22), (Str.ofString "==", 27), (Str.ofString ">", 21), (Str.ofString ">=", 30), (Str.ofString ">>", 34), (Str.ofString ">>=", 45), (Str.ofString "@", 49), (Str.ofString "@=", 50), (Str.ofString "[", 9), (Str.ofString "]", 10), (Str.ofString "^", 32), (Str.ofString "^=", 43), (Str.ofString "{", 25), (Str.ofString "|", 18), (Str.ofString "|=", 42), (Str.ofString "}", 26), (Str.ofString "~", 31)]
section
variable {c : Cf} {N : List OD} {k : Kt}
theorem fn3 {f : Value} {d e g : D} (q : ∀ (x : Sx) v u w, Good c x N → x.Is d v → x.Is e u → x.Is g w → wpx c x (call f [v, u, w]) (PE c x k)) : FnOk c f [d, e, g] N k := fun x vs G il => by
  obtain ⟨v, r, rfl, i, il⟩ := il.inv
  obtain ⟨u, r, rfl, j, il⟩ := il.inv
  obtain ⟨w, r, rfl, l, il⟩ := il.inv
  rw [il.invNil]; exact q x v u w G i j l
noncomputable def TokOk (c : Cf) : Prop := ∀ h, c.K.In h → StrTab c.prog c.w h 92 (kdpD tokTab)
theorem FnOk.tget (T : TokOk c) {s : Str} (hk : k (.int (kdpLook tokTab s 0)) N) : FnOk c (.builtin "dict.get") [.val (.ref 92), .str s, .int 0] N k := fn3 fun x v u w G i j l => by
  obtain ⟨_, rfl⟩ := j.str'
  obtain ⟨_, rfl⟩ := l.int'
  rw [i.val']
  exact kdp_get2 (s := x.s) (T _ (G.C.X.keeps G.S.sub)) fun t => .mkT G .int hk
theorem GetOk.get (T : TokOk c) : GetOk c (.val (.ref 92)) "get" N (.builtin "dict.get") := fun x v pl Q G i h => by
  obtain rfl := i.val'
  obtain ⟨lo, kvs, hD, _⟩ := T _ (G.C.X.keeps G.S.sub)
  exact getMethod_builtin (s := x.s) hD.typeIs PySem.F.plainAttrs_dict PySem.F.slot_dict_get PySem.F.type_dict_get hD.mapOf.noDict h
theorem FnOk.max3 {a b d : Nat} (ha : a < 200) (hb : b < 200) (hd : d < 200) (hk : k (.flt (fl (max (max a b) d))) N) : FnOk c (.builtin "max") [.flt (fl a), .flt (fl b), .flt (fl d)] N k := fn3 fun x v u w G i j l => by
  obtain ⟨t, rfl⟩ := i.flt'
  obtain ⟨t', rfl⟩ := j.flt'
  obtain ⟨t'', rfl⟩ := l.flt'
  have hT : (x.h.push { cls := .type "tuple", data := .seq #[.float (fl a) t, .float (fl b) t', .float (fl d) t''] }).IsTuple x.h.objs.size #[.float (fl a) t, .float (fl b) t', .float (fl d) t''] := ⟨_, Heap.get?_push_size _ rfl, rfl, 0, rfl⟩
  refine call_max_three (wpAny_pyIter_tuple hT ?_)
  have hsz : (x.h.push { cls := .type "tuple", data := .seq #[.float (fl a) t, .float (fl b) t', .float (fl d) t''] }).objs.size = x.h.objs.size + 1 := Heap.size_push ..
  refine ⟨_, [_, x.h.objs.size], [_], _, _, _, _, rfl, Walks.tuple (A := x.A.in1) G.R.h _ x.h.objs.size (by rw [hsz]; exact Nat.ne_of_lt (Nat.lt_succ_self _)) #[.float (fl a) t, .float (fl b) t', .float (fl d) t''],
    ⟨⟨_, Heap.get?_push_size _ rfl, rfl, rfl⟩, hT.push _⟩, fun c hc => ?_, by simp, Flt.cmpOf_gt #[.float (fl a) t, .float (fl b) t', .float (fl d) t''] (by simp [Flt.NumV.float]), fun v h' tk hP hk' => ?_⟩
  · show c < ((x.h.push _).push _).objs.size
    rw [Heap.size_push, hsz]
    rcases List.mem_cons.mp hc with rfl | hc
    · rw [hsz]; exact Nat.lt_succ_self _
    · rw [List.mem_singleton.mp hc]; exact Nat.lt_succ_of_lt (Nat.lt_succ_self _)
  · have hold : Sub x.h h' := fun c o e => by
      refine hk' c o (fun hm => ?_) (Heap.get?_push_of_some _ (Heap.get?_push_of_some _ e))
      have := Heap.lt_size e
      rw [List.mem_singleton.mp hm, hsz] at this; exact Nat.lt_irrefl _ (Nat.lt_of_succ_lt this)
    have hv : ∃ t, v = .float (fl (max (max a b) d)) t := by
      have e1 : ∀ {p q : Nat} {t u}, p < 200 → q < 200 → Flt.ltV (.float (fl p) t) (.float (fl q) u) = decide (p < q) := fun hp hq => fl_lt hp hq
      by_cases c1 : a < b
      · by_cases c2 : b < d
        · simp [argBest, e1, ha, hb, hd, c1, c2] at hP; exact ⟨_, by rw [← hP, show max (max a b) d = d by (first | lia | omega)]⟩
        · simp [argBest, e1, ha, hb, hd, c1, c2] at hP; exact ⟨_, by rw [← hP, show max (max a b) d = b by (first | lia | omega)]⟩
      · by_cases c2 : a < d
        · simp [argBest, e1, ha, hb, hd, c1, c2] at hP; exact ⟨_, by rw [← hP, show max (max a b) d = d by (first | lia | omega)]⟩
        · simp [argBest, e1, ha, hb, hd, c1, c2] at hP; exact ⟨_, by rw [← hP, show max (max a b) d = a by (first | lia | omega)]⟩
    obtain ⟨t, rfl⟩ := hv
    exact .mkS G hold .flt hk
theorem FnOk.min3 {a b d : Nat} (ha : a < 200) (hb : b < 200) (hd : d < 200) (hk : k (.flt (fl (min (min a b) d))) N) : FnOk c (.builtin "min") [.flt (fl a), .flt (fl b), .flt (fl d)] N k := fn3 fun x v u w G i j l => by
  obtain ⟨t, rfl⟩ := i.flt'
  obtain ⟨t', rfl⟩ := j.flt'
  obtain ⟨t'', rfl⟩ := l.flt'
  have hT : (x.h.push { cls := .type "tuple", data := .seq #[.float (fl a) t, .float (fl b) t', .float (fl d) t''] }).IsTuple x.h.objs.size #[.float (fl a) t, .float (fl b) t', .float (fl d) t''] := ⟨_, Heap.get?_push_size _ rfl, rfl, 0, rfl⟩
  refine call_min_three (wpAny_pyIter_tuple hT ?_)
  have hsz : (x.h.push { cls := .type "tuple", data := .seq #[.float (fl a) t, .float (fl b) t', .float (fl d) t''] }).objs.size = x.h.objs.size + 1 := Heap.size_push ..
  refine ⟨_, [_, x.h.objs.size], [_], _, _, _, _, rfl, Walks.tuple (A := x.A.in1) G.R.h _ x.h.objs.size (by rw [hsz]; exact Nat.ne_of_lt (Nat.lt_succ_self _)) #[.float (fl a) t, .float (fl b) t', .float (fl d) t''],
    ⟨⟨_, Heap.get?_push_size _ rfl, rfl, rfl⟩, hT.push _⟩, fun c hc => ?_, by simp, Flt.cmpOf_lt #[.float (fl a) t, .float (fl b) t', .float (fl d) t''] (by simp [Flt.NumV.float]), fun v h' tk hP hk' => ?_⟩
  · show c < ((x.h.push _).push _).objs.size
    rw [Heap.size_push, hsz]
    rcases List.mem_cons.mp hc with rfl | hc
    · rw [hsz]; exact Nat.lt_succ_self _
    · rw [List.mem_singleton.mp hc]; exact Nat.lt_succ_of_lt (Nat.lt_succ_self _)
  · have hold : Sub x.h h' := fun c o e => by
      refine hk' c o (fun hm => ?_) (Heap.get?_push_of_some _ (Heap.get?_push_of_some _ e))
      have := Heap.lt_size e
      rw [List.mem_singleton.mp hm, hsz] at this; exact Nat.lt_irrefl _ (Nat.lt_of_succ_lt this)
    have hv : ∃ t, v = .float (fl (min (min a b) d)) t := by
      have e1 : ∀ {p q : Nat} {t u}, p < 200 → q < 200 → Flt.ltV (.float (fl p) t) (.float (fl q) u) = decide (p < q) := fun hp hq => fl_lt hp hq
      by_cases c1 : b < a
      · by_cases c2 : d < b
        · simp [argBest, e1, ha, hb, hd, c1, c2] at hP; exact ⟨_, by rw [← hP, show min (min a b) d = d by (first | lia | omega)]⟩
        · simp [argBest, e1, ha, hb, hd, c1, c2] at hP; exact ⟨_, by rw [← hP, show min (min a b) d = b by (first | lia | omega)]⟩
      · by_cases c2 : d < a
        · simp [argBest, e1, ha, hb, hd, c1, c2] at hP; exact ⟨_, by rw [← hP, show min (min a b) d = d by (first | lia | omega)]⟩
        · simp [argBest, e1, ha, hb, hd, c1, c2] at hP; exact ⟨_, by rw [← hP, show min (min a b) d = a by (first | lia | omega)]⟩
    obtain ⟨t, rfl⟩ := hv
    exact .mkS G hold .flt hk
end
-- where the count of tokens is not nought
noncomputable def SndP (c : Cf) (P : Pm) (e : Expr) (t : EvT) : Prop := ∀ (x : Sx) (N : List OD) (k : Kt), Good c x N → x.P = P → 0 < x.tk → t c x.l N k → wpx c x (eval e x.env) (PE c x k)
noncomputable def SndSp (c : Cf) (P : Pm) (b : List Stmt) (t : SxT) : Prop := ∀ (x : Sx) (N : List OD) (kn kc : Lk2) (kr : Kt), Good c x N → x.P = P → 0 < x.tk → t c x.l N kn kc kr → wpx c x (execs b x.env) (PS c x kn kc kr)
noncomputable def eRepl (s : EvT) (y z : Str) : EvT := fun c l N k => s c l N fun d N => ∃ x : Str, d = .str x ∧ x.length ≤ 1048576 ∧ k (.str (Txt.replace x y z)) N
section
variable {c : Cf} {P : Pm} {pos : Pos}
theorem Snd.p {e : Expr} {t : EvT} (h : Snd c P e t) : SndP c P e t := fun x N k G hP _ q => h x N k G hP q
theorem SndS.p {b : List Stmt} {t : SxT} (h : SndS c P b t) : SndSp c P b t := fun x N kn kc kr G hP _ q => h x N kn kc kr G hP q
theorem pos_of {x : Sx} {α : Type} {m : Sem α} {R : α → Shared → Prop} (p : 0 < x.tk) (h : wpx c x m R) : wpx c x m (fun v s => 0 < s.toks ∧ R v s) :=
  wpAny_mono (wpAny_toks_of (s := x.s) (n := 1) p h) (fun _ _ z => z) fun _ _ z => z.2
theorem SndP.repl {o : Expr} {s : EvT} {y z : Str} {k1 k2 : Nat} {apos p1 p2 : Pos} (ho : Snd c P o s) (hyz : (y == z) = false) (hz : z.length ≤ 14)
    (sh : ∀ env, ∃ pl, eval (.Call (.Attribute o "replace" apos) [.Constant (.str y) k1 p1, .Constant (.str z) k2 p2] [] pos) env = (do
      let ov ← eval o env
      standAt apos.atName
      let (f, first) ← holding [ov] (getMethod ov "replace" pl)
      callWith pos f first (backTo pos (starEach [.Constant (.str y) k1 p1, .Constant (.str z) k2 p2] env)) (backToKw pos (keywordEach [] env)))) :
    SndP c P (.Call (.Attribute o "replace" apos) [.Constant (.str y) k1 p1, .Constant (.str z) k2 p2] [] pos) (eRepl s y z) := fun x N k G hP hp h => by
  obtain ⟨pl, e⟩ := sh x.env
  refine methodCall_KW (pl := pl) (wpAny_mono (pos_of hp (ho x N _ G hP h)) (fun v s' z => ?_) fun _ _ z => z) e
  obtain ⟨q, zs, W, h', ge, tk, d, N1, rfl, e1, G1, i, x', rfl, hl, hk⟩ := z
  obtain ⟨t, rfl⟩ := i.str'
  refine GM.replace (cwB (args_cons (wpAny_Constant_str (args_cons (wpAny_Constant_str (args_nil ?_))))))
  have q' : 0 < tk := q
  exact SC.replaceW (show (tk : Nat) ≠ 0 by (first | lia | omega)) (show (tk + 1 : Nat) ≠ 0 by (first | lia | omega)) (show (tk : Nat) ≠ tk + 1 by (first | lia | omega)) hyz hl hz fun t' k' => (PE.mkT (tk := k') G1 .str hk).lift G.S.lg.sub e1
theorem SndP.bin {op : Operator} {a b : Expr} {s t : EvT} (ha : Snd c P a s) (hb : SndP c P b t) : SndP c P (.BinOp a op b pos) (eBin op s t) := fun x N k G hP hp h => by
  refine wpAny_BinOp (wpAny_mono (pos_of hp (ha x N _ G hP h)) (fun v s' z => ?_) fun _ _ z => z)
  obtain ⟨q, zs, W, h', ge, tk, d, N1, rfl, e1, G1, i1, h1⟩ := z
  refine PE.bind (hb (x.up zs W h' ge tk) N1 _ G1 hP q h1) fun zs2 W2 h2 ge2 tk2 vb d2 N2 e2 G2 i2 h3 => ?_
  exact up_lift G (e1.trans G.S.lg.sub e2) (h3 _ _ _ G2 (i1.per0 e2 G1.S.lg.sub) i2)
theorem SndP.binL {op : Operator} {a b : Expr} {s t : EvT} (ha : SndP c P a s) (hb : Snd c P b t) : SndP c P (.BinOp a op b pos) (eBin op s t) := fun x N k G hP hp h => by
  refine wpAny_BinOp (PE.bind (ha x N _ G hP hp h) fun zs W h' ge tk v d N1 e1 G1 i1 h1 => ?_)
  refine PE.bind (hb (x.up zs W h' ge tk) N1 _ G1 hP h1) fun zs2 W2 h2 ge2 tk2 vb d2 N2 e2 G2 i2 h3 => ?_
  exact up_lift G (e1.trans G.S.lg.sub e2) (h3 _ _ _ G2 (i1.per0 e2 G1.S.lg.sub) i2)
variable {r : List Stmt} {u : SxT}
theorem SndSp.asgG {n : Str} {i : Nat} {e : Expr} {t : EvT} {px : Pos} (hs : Slot n i P.vs) (sw : ∀ env, swapsWith e (some (.Name n px)) pos.line env = pure false) (hr : SndSp c P r u) {x : Sx} {N : List OD} {kn kc : Lk2} {kr : Kt} (G : Good c x N) (hP : x.P = P)
    (he : wpx c x (eval e x.env) (PE c x fun d N => u c (x.l.set i (some d)) N kn kc kr)) : wpx c x (execs (.Assign [.Name n px] e pos :: r) x.env) (PS c x kn kc kr) := by
  subst hP
  refine SndS.next (wpAny_Assign_Name (PE.bind he fun zs W h ge tk v d N1 e1 G1 iv hk => ?_) (sw _))
  refine storeP G1 hs iv fun h2 tk2 p2 e2 _ G2 => ?_
  exact to_lift G (ExL.trans (l := x.l) (ge := ge) (tk := tk) G (G.toL G1 e1) e2) (hr _ N1 kn kc kr G2 rfl p2 hk)
theorem SndSp.asg {n : Str} {i : Nat} {e : Expr} {t : EvT} {px : Pos} (hs : Slot n i P.vs) (he : SndP c P e t) (sw : ∀ env, swapsWith e (some (.Name n px)) pos.line env = pure false) (hr : SndSp c P r u) : SndSp c P (.Assign [.Name n px] e pos :: r) (sAsg i t u) := fun x N kn kc kr G hP hp h =>
  SndSp.asgG (t := t) hs sw hr G hP (he x N _ G hP hp h)
theorem SndS.asgP {n : Str} {i : Nat} {e : Expr} {t : EvT} {px : Pos} (hs : Slot n i P.vs) (he : Snd c P e t) (sw : ∀ env, swapsWith e (some (.Name n px)) pos.line env = pure false) (hr : SndSp c P r u) : SndS c P (.Assign [.Name n px] e pos :: r) (sAsg i t u) := fun x N kn kc kr G hP h =>
  SndSp.asgG (t := t) hs sw hr G hP (he x N _ G hP h)
theorem SndSp.iff {e : Expr} {t : CdT} {a b : List Stmt} {ta tb : SxT} (he : SndC c P e t) (ha : SndSp c P a ta) (hb : SndSp c P b tb) (hr : SndS c P r u) : SndSp c P (.If e a b pos :: r) (sIf t ta tb u) := fun x N kn kc kr G hP hp h => by
  refine SndS.next (wpAny_If (wpAny_mono (pos_of hp (he x N _ G hP h)) (fun t s' z => ?_) fun _ _ z => z))
  obtain ⟨q, zs, W, h', ge, tk, N1, rfl, e1, G1, hk⟩ := z
  have fin : ∀ {bd : List Stmt} {tt : SxT}, SndSp c P bd tt → tt c x.l N1 (fun l N => u c l N kn kc kr) kc kr → wpx c (x.up zs W h' ge tk) (execs bd x.env) (fun f s' => match f with
      | .next => wpAny (model c.prog c.w) x.A (execs r x.env) (PS c x kn kc kr) NoE s'
      | f => PS c x kn kc kr f s') := fun hs hq => by
    refine wpAny_mono (hs (x.up zs W h' ge tk) N1 _ kc kr G1 hP q hq) (fun f s' z => ?_) fun _ _ z => z
    obtain ⟨l2, zs2, W2, h2, ge2, tk2, N2, rfl, e2, G2, q⟩ := z
    have e12 : ExL x zs2 W2 h2 := ExL.trans (l := x.l) (ge := ge) (tk := tk) G (G.toL G1 e1) e2
    cases f with
    | next => exact to_lift G e12 (hr _ N2 kn kc kr G2 hP q)
    | cont => exact ⟨l2, zs2, W2, h2, ge2, tk2, N2, rfl, e12, G2, q⟩
    | brk => exact q.elim
    | ret v => exact ⟨l2, zs2, W2, h2, ge2, tk2, N2, rfl, e12, G2, q⟩
  cases t with
  | true => exact fin ha hk
  | false => exact fin hb hk
end
end

noncomputable section
noncomputable def Sca : D → Prop
  | .lst _ => False
  | .tup _ => False
  | .rng _ _ => False
  | _ => True
noncomputable def ScaL (l : Loc) : Prop := ∀ d, some d ∈ l → Sca d
noncomputable def ScaN (N : List OD) : Prop := ∀ od ∈ N, match od with
  | .lst ds => ∀ d ∈ ds, Sca d
  | _ => True
theorem Is.sca {zs : Zs} {W W' : List Addr} {h h' : Heap} {d : D} {v : Value} (s : Sca d) (i : Is zs W h d v) : Is zs W' h' d v := by
  cases i with
  | none => exact .none
  | bool => exact .bool
  | int => exact .int
  | str => exact .str
  | flt => exact .flt
  | val => exact .val
  | lst => exact s.elim
  | tup => exact s.elim
  | rng => exact s.elim
  | ob e => exact .ob e
  | sub e f => exact .sub e f
section
variable {c : Cf} {x : Sx} {N : List OD} {l : Loc} {zs : Zs} {W W' : List Addr} {h h' : Heap} {ge ge' : Array GenState} {tk tk' : Nat}
theorem Lg.sca (S : Lg c.X zs W h N) (sN : ScaN N) (hz : ∀ b ∈ zs.flatten, b ∈ W') (kW : ∀ b ∈ W', ∃ o, h.get? b = some o ∧ h'.get? b = some o) : Lg c.X zs W' h' N := by
  have kz : ∀ {z : List Addr}, z ∈ zs → ∀ b ∈ z, ∀ o, h.get? b = some o → h'.get? b = some o := fun hm b hb o e => by
    obtain ⟨o', e1, e2⟩ := kW b (hz b (List.mem_flatten.mpr ⟨_, hm, hb⟩))
    rw [e] at e1; cases e1; exact e2
  refine ⟨S.nd, hz, fun b m => let ⟨o, _, e⟩ := kW b m; ⟨o, e⟩, S.len, fun i od z a b => ?_⟩
  have q := S.obs i od z a b
  have k := kz (List.mem_of_getElem? b)
  cases od with
  | lst ds =>
    obtain ⟨a', vs, n, rfl, ha, hi⟩ := q
    exact ⟨a', vs, n, rfl, k a' (.head _) _ ha, hi.1, fun p m => (hi.2 p m).sca (sN _ (List.mem_of_getElem? a) _ (List.of_mem_zip m).1)⟩
  | lex => exact c.X.keep q k
  | cit => exact c.X.ckeep q k fun _ _ e => e
theorem Good.sca (G : Good c (x.to l zs W h ge tk) N) (sl : ScaL l) (sN : ScaN N) (hz : ∀ b ∈ zs.flatten, b ∈ W') (kW : ∀ b ∈ W', ∃ o, h.get? b = some o ∧ h'.get? b = some o)
    (kL : ∀ o, h.get? x.L = some o → h'.get? x.L = some o) (kg : Sub x.g h') (hb : c.B ge') : Good c (x.to l zs W' h' ge' tk') N := by
  obtain ⟨m, F, hloc⟩ := G.S.fr
  refine ⟨G.R, G.C, G.E, G.ok, ⟨⟨m, ⟨F.ns.at' kL, kg, F.above⟩, fun i y d a b => ?_⟩, G.S.off, G.S.lg.sca sN hz kW⟩, hb⟩
  obtain ⟨v, hv, iv⟩ := hloc i y d a b
  exact ⟨v, hv, iv.sca (sl d (List.mem_of_getElem? b))⟩
end
noncomputable def forE (turn : Nat × List Nat → Loc → List OD → Lk2 → Prop) (n : Nat) : List (Nat × List Nat) → Loc → List OD → Lk2 → Prop
  | [], l, N, k => (ScaL l ∧ ScaN N ∧ N.length = n) ∧ k l N
  | d :: ds, l, N, k => (ScaL l ∧ ScaN N ∧ N.length = n) ∧ turn d l N fun l N => forE turn n ds l N k
theorem forE.sca {turn : Nat × List Nat → Loc → List OD → Lk2 → Prop} {n : Nat} {ds : List (Nat × List Nat)} {l : Loc} {N : List OD} {k : Lk2} (h : forE turn n ds l N k) : ScaL l ∧ ScaN N ∧ N.length = n := by
  cases ds with
  | nil => exact h.1
  | cons => exact h.1
noncomputable abbrev escS (i j : Nat) (p : Nat × List Nat) (l : Loc) : Loc := (l.set i (some (.int (p.1 : Nat)))).set j (some (.str ⟨p.2.toArray⟩))
noncomputable abbrev Cf.wB (c : Cf) (B : Array GenState → Prop) : Cf := ⟨c.prog, c.w, c.X, c.K, c.n, B⟩
noncomputable def sForE (i j : Nat) (e : EvT) (b : SxT) (r : SxT) : SxT := fun c l N kn kc kr => e c l N fun d N => ∃ s : Str, d = .str s ∧ s.cps.all (· < 128) = true ∧
  forE (fun p l N q => ∀ B, b (c.wB B) (escS i j p l) N q q kr) N.length (units 0 false s.cps.toList) l N fun l N => r c l N kn kc kr
section
variable {c : Cf} {x : Sx} {N : List OD} {P : Pm} {pos : Pos}
/-- the generator, made and asked for its iterator -/
theorem escMk (O : c.Ok) (hB : c.B = AllBare) {s : Str} {t : Tok} {Q : Value → Shared → Prop} (G : Good c x N) (hs : s.cps.all (· < 128) = true)
    (q : ∀ a gn h ge tk, Sub x.h h → AllBare ge → x.L < x.h.objs.size → EscAt c.prog c.w x.A a gn x.h.objs.size x.g (units 0 false s.cps.toList) 0 h ge → wpx c (x.up x.zs x.W h ge tk) (pyIter (.ref a)) Q) :
    wpx c x (call (.ref 35) [.str s t]) (fun v s₁ => wpAny (model c.prog c.w) x.A (pyIter v) Q NoE s₁) := by
  obtain ⟨m, F, _⟩ := G.S.fr
  exact esc_call O.hK G.R (A' := x.A) G.R.h G.C (l := []) ⟨m, F, fun _ hm => nomatch hm⟩ hs (hB ▸ G.b) fun a h' ge' tk' k hL hb X _ => q a _ h' ge' tk' k hb hL X
theorem not_ityN {n₀ L : Addr} {o : Obj} (hd : ∃ es ep, o.data = .dict es ep) (hL : L ≠ n₀) : ¬ Ity n₀ L o := fun q => by
  rcases q with q | ⟨_, _, q⟩
  · exact hL q
  · obtain ⟨es, ep, hd⟩ := hd; exact q es ep hd
/-- a turn of the generator's: all that is older stays -/
theorem escTurn (hB : c.B = AllBare) {a gn : Addr} {U : List (Nat × List Nat)} {j : Nat} {l : Loc} {W : List Addr} {h : Heap} {ge : Array GenState} {tk : Nat} {N : List OD} {zs : Zs} {Q : Option Value → Shared → Prop} {n₀ : Addr} (hL : x.L ≠ n₀) (hW : ∀ b ∈ x.W, b < n₀)
    (G : Good c (x.to l zs W h ge tk) N) (sl : ScaL l) (sN : ScaN N) (hz : ∀ b ∈ zs.flatten, b ∈ x.W) (lv : ∀ b ∈ x.W, ∃ o, h.get? b = some o) (X : EscAt c.prog c.w x.A a gn n₀ x.g U j h ge) (hj : j ≤ U.length)
    (hY : ∀ T p tp tu h' ge' tk', U[j]? = some p → h'.IsTuple T #[.int (p.1 : Nat) tp, .str ⟨p.2.toArray⟩ tu] → KeepG n₀ h h' → (∀ b ∈ x.W, ∃ o, h'.get? b = some o) → Good c (x.to l zs x.W h' ge' tk') N → EscAt c.prog c.w x.A a gn n₀ x.g U (j + 1) h' ge' → Q (some (.ref T)) ⟨h', ge', x.dr, tk', x.os⟩)
    (hN : j = U.length → ∀ h' ge' tk', KeepG n₀ h h' → (∀ b ∈ x.W, ∃ o, h'.get? b = some o) → Good c (x.to l zs x.W h' ge' tk') N → Q none ⟨h', ge', x.dr, tk', x.os⟩) : wpx c (x.to l zs W h ge tk) (pyNext (.ref a)) Q := by
  have kp : ∀ {h' ge'} tk', KeepG n₀ h h' → AllBare ge' → Good c (x.to l zs x.W h' ge' tk') N ∧ ∀ b ∈ x.W, ∃ o, h'.get? b = some o := fun tk' k hb => by
    have kW : ∀ b ∈ x.W, ∃ o, h.get? b = some o ∧ _ := fun b m => let ⟨o, e⟩ := lv b m; ⟨o, e, k b o e (not_ity (hW b m) o)⟩
    exact ⟨G.sca sl sN hz kW (fun o e => k _ o e (not_ityN (by obtain ⟨m, F, _⟩ := G.S.fr; obtain ⟨o', es, ep, ho, hd, _⟩ := F.ns; have e' : h.get? x.L = some o := e; rw [show h.get? x.L = some o' from ho] at e'; cases e'; exact ⟨es, ep, hd⟩) hL)) (fun b o e => k b o (G.S.sub b o e) (base_off X.bd e o)) (hB ▸ hb), fun b m => let ⟨o, _, e⟩ := kW b m; ⟨o, e⟩⟩
  refine esc_next G.R.h (G.C.lim.keeps G.S.sub) G.R.room X G.S.sub (hB ▸ G.b) hj (fun T u p tp tu h' ge' tk' _ hu k hT hb X' => ?_) fun e h' ge' tk' k hb => ?_
  · obtain ⟨G', lv'⟩ := kp tk' k hb
    exact hY T _ tp tu h' ge' tk' hu ⟨_, hT, rfl, _, rfl⟩ k lv' G' X'
  · obtain ⟨G', lv'⟩ := kp tk' k hb
    exact hN e h' ge' tk' k lv' G'
theorem Good.keepL {y : Sx} (G : Good c y N) {l : Loc} {W : List Addr} {h : Heap} {ge : Array GenState} {tk : Nat} {N' : List OD} (G' : Good c (y.to l y.zs W h ge tk) N') (k : Keep (y.L :: y.zs.flatten) y.h h) : ExL y y.zs y.W h :=
  ⟨⟨[], by simp⟩, fun _ m => m, fun _ m => .inl m, fun _ m => .inl m, k, fun b m => by
    rcases List.mem_cons.mp m with rfl | m
    · exact .inr ⟨G.liveL, G'.liveL⟩
    · exact .inl m⟩
inductive Eln (c : Cf) (y : Sx) (a gn : Addr) (U : List (Nat × List Nat)) (p : List (Nat × List Nat) → Loc → List OD → Prop) (n : Nat) (s : Shared) : Prop
  | mk (j : Nat) (l : Loc) (W : List Addr) (h : Heap) (ge : Array GenState) (tk : Nat) (N : List OD) (en : n = U.length - j) (hj : j ≤ U.length) (e : s = (y.to l y.zs W h ge tk).s) (kp : Keep (y.L :: y.zs.flatten) y.h h) (G : Good c (y.to l y.zs W h ge tk) N) (lv : ∀ b ∈ y.W, ∃ o, h.get? b = some o) (X : EscAt c.prog c.w y.A a gn y.h.objs.size y.g U j h ge) (hk : p (U.drop j) l N)
theorem escLoop (O : c.Ok) (hB : c.B = AllBare) {y : Sx} {s : Str} {t : Tok} {n1 n2 : Str} {i1 i2 kk : Nat} {p1 p2 pt : Pos} {b : List Stmt} {tb : SxT} {K : Lk2} {kr : Kt} {Q : Flow → Shared → Prop} (G : Good c y N) (hs : s.cps.all (· < 128) = true)
    (hk : Mine.forE (fun p l N q => ∀ B, tb (c.wB B) (escS i1 i2 p l) N q q kr) N.length (units 0 false s.cps.toList) y.l N K) (h1 : Slot n1 i1 y.P.vs) (h2 : Slot n2 i2 y.P.vs) (hb : ∀ B, SndS (c.wB B) y.P b tb)
    (hQ : ∀ l h ge tk N', ExL y y.zs y.W h → Good c (y.to l y.zs y.W h ge tk) N' → K l N' → Q .next ⟨h, ge, y.dr, tk, y.os⟩) (hR : ∀ v l zs W h ge tk N', ExL y zs W h → Good c (y.to l zs W h ge tk) N' → (∃ d, Is zs W h d v ∧ kr d N') → Q (.ret v) ⟨h, ge, y.dr, tk, y.os⟩) :
    wpx c y (call (.ref 35) [.str s t]) (fun v s₁ => wpAny (model c.prog c.w) y.A (pyIter v) (fun it s₂ => codeAny (model c.prog c.w) y.A (.forLoop (.Tuple [.Name n1 p1, .Name n2 p2] kk pt) it b [] y.env) (fun r s' => match r with | .ok f => Q f s' | .error _ => False) s₂) NoE s₁) := by
  have zW : ∀ b ∈ y.W, b < y.h.objs.size := fun b m => let ⟨o, e⟩ := G.S.lg.live b m; Heap.lt_size e
  refine escMk O hB G hs fun a gn h3 ge3 tk3 k3 hb3 hL X => wpAny_pyIter_gen X.gen ?_
  have zF : ∀ b ∈ y.L :: y.zs.flatten, b < y.h.objs.size := List.forall_mem_cons.mpr ⟨hL, fun b m => zW b (G.S.lg.sub b m)⟩
  refine for_turns (Eln c y a gn (units 0 false s.cps.toList) fun us l N3 => Mine.forE (fun p l N q => ∀ B, tb (c.wB B) (escS i1 i2 p l) N q q kr) N.length us l N3 K) ?_ _
    ⟨0, y.l, y.W, h3, ge3, tk3, N, rfl, Nat.zero_le _, rfl, fun b o _ e => k3 b o e, ⟨G.R, G.C, G.E, G.ok, G.S.ext k3, hB ▸ hb3⟩, fun b m => let ⟨o, e⟩ := G.S.lg.live b m; ⟨o, k3 b o e⟩, X, hk⟩
  clear hk X k3 hb3
  generalize hU : units 0 false s.cps.toList = U
  rintro m _ ⟨j, l, W, h, ge, tk, N3, rfl, hj, rfl, kp, G3, lv, X, hk⟩
  obtain ⟨sl, sN, hn⟩ := hk.sca
  have hlen : y.zs.length = N.length := G.S.lg.len.symm
  have kG : ∀ {h'}, KeepG y.h.objs.size h h' → Keep (y.L :: y.zs.flatten) y.h h' := fun k b o n e => k b o (kp b o n e) (not_ity (Heap.lt_size e) o)
  refine escTurn hB (Nat.ne_of_lt hL) zW G3 sl sN G.S.lg.sub lv X hj (fun T p tp tu h4 ge4 tk4 hu hT k4 lv4 G4 X4 => ?_) fun e h4 ge4 tk4 k4 lv4 G4 => ?_
  · rw [drop_at hu] at hk
    refine letOwned_gen X4.gen (asgT G4 h1 h2 hT .int .str fun h5 tk5 k5 G5 => ?_)
    have hk2 := hk.2 (fun ge => ge = ge4)
    refine wpAny_mono (hb (fun ge => ge = ge4) (y.to (escS i1 i2 p l) y.zs y.W h5 ge4 tk5) N3 _ _ kr ⟨G5.R, G5.C, G5.E, G5.ok, G5.S, rfl⟩ rfl hk2) (fun f s6 z => ?_) fun _ _ z => z
    obtain ⟨l6, zs6, W6, h6, ge6, tk6, N6, rfl, e6, G6', q⟩ := z
    obtain rfl : ge6 = ge4 := G6'.b
    have G6 : Good c (y.to l6 zs6 W6 h6 ge6 tk6) N6 := ⟨G6'.R, G6'.C, G6'.E, G6'.ok, G6'.S, G5.b⟩
    have kp5 : Keep (y.L :: y.zs.flatten) y.h h5 := fun b o n e => k5 b o (fun m => n (List.mem_singleton.mp m ▸ .head _)) (kG k4 b o n e)
    have e56 : ExL y zs6 W6 h6 := ExL.trans (l := escS i1 i2 p l) (ge := ge6) (tk := tk5) G (G.keepL G5 kp5) e6
    have turn : Mine.forE (fun p l N q => ∀ B, tb (c.wB B) (escS i1 i2 p l) N q q kr) N.length (U.drop (j + 1)) l6 N6 K → ∃ m, m < U.length - j ∧ Eln c y a gn U (fun us l N3 => Mine.forE (fun p l N q => ∀ B, tb (c.wB B) (escS i1 i2 p l) N q q kr) N.length us l N3 K) m (y.to l6 zs6 W6 h6 ge6 tk6).s := fun hk6 => by
      obtain ⟨sl6, sN6, hn6⟩ := hk6.sca
      obtain ⟨ws, hws⟩ := e56.pre
      have : ws = [] := by
        have a1 := G6.S.lg.len
        rw [hn6, ← hlen, show (y.to l6 zs6 W6 h6 ge6 tk6).zs = zs6 from rfl, hws, List.length_append] at a1
        exact List.length_eq_zero_iff.mp (by omega)
      rw [this, List.append_nil] at hws
      subst hws
      have hjl := (List.getElem?_eq_some_iff.mp hu).1
      exact ⟨_, Nat.sub_succ_lt_self _ _ hjl, j + 1, l6, W6, h6, ge6, tk6, N6, rfl, hjl, rfl, e56.kp, G6, fun b m => G6.S.lg.live b (e56.sub b m),
        X4.keepW (W := y.L :: y.zs.flatten) (fun b o n e => e6.kp b o n (k5 b o (fun m => n (List.mem_singleton.mp m ▸ .head _)) e)) zF, hk6⟩
    cases f with
    | next => exact turn q
    | cont => exact turn q
    | brk => exact q.elim
    | ret v => exact hR v l6 zs6 W6 h6 ge6 tk6 N6 e56 G6 q
  · rw [e, List.drop_length] at hk
    exact hQ l h4 ge4 tk4 N3 (G.keepL G4 (kG k4)) G4 hk.2
theorem SndS.forE (O : c.Ok) (hB : c.B = AllBare) {n1 n2 : Str} {i1 i2 ig kk : Nat} {a : Expr} {t : EvT} {p1 p2 p3 p4 pt : Pos} {b r : List Stmt} {tb : SxT} {u : SxT} (h1 : Slot n1 i1 P.vs) (h2 : Slot n2 i2 P.vs) (hg : Slot (Str.ofString "_iter_escaped_chars") ig P.gs) (ha : Snd c P a t) (hse : ∀ env, starEach [a] env = [(false, eval a env)])
    (sh : CallShape (.Name (Str.ofString "_iter_escaped_chars") p3) [a] p4) (hb : ∀ B, SndS (c.wB B) P b tb) (hr : SndS c P r u) :
    SndS c P (.For (.Tuple [.Name n1 p1, .Name n2 p2] kk pt) (.Call (.Name (Str.ofString "_iter_escaped_chars") p3) [a] [] p4) b [] pos :: r) (sForE i1 i2 t tb u) := fun x N kn kc kr G hP h => by
  subst hP
  refine SndS.next (for_stmt ?_)
  rw [sh]
  refine wpAny_bind (PE.bind (k1 := fun d N' => d = .val (.ref 35) ∧ N' = N) (Snd.glo (c := c) (P := x.P) O hg (by (with_reducible (repeat (first | exact At.hd | apply At.tl)))) x N _ G rfl ⟨rfl, rfl⟩) fun zs W h' ge tk v d N1 e G1 i hk' => ?_)
  obtain ⟨rfl, rfl⟩ := hk'
  rw [i.val']
  refine callR (P := x.P) (first := []) (fds := []) (kk := fun ds N1 => match ds with
    | [d] => ∃ s : Str, d = .str s ∧ s.cps.all (· < 128) = true ∧ Mine.forE (fun p l N q => ∀ B, tb (c.wB B) (escS i1 i2 p l) N q q kr) N1.length (units 0 false s.cps.toList) x.l N1 fun l N => u c l N kn kc kr
    | _ => False) G1 rfl .nil (SndA.cons ha .nil (fun env => hse env)) (show aCons t aNil c x.l N1 _ from h) (fun ds N2 zs2 W2 h2' ge2 tk2 vs hk2 e2 G2 il => ?_) (AOk.cons AOk.nil (fun env => hse env)) (.inr (.inr O.hK.fIter.keep))
  obtain ⟨d, r1, rfl⟩ : ∃ d r, ds = d :: r := by cases ds with
    | nil => exact hk2.elim
    | cons d r => exact ⟨d, r, rfl⟩
  obtain rfl : r1 = [] := by cases r1 with
    | nil => rfl
    | cons => exact hk2.elim
  obtain ⟨s, rfl, hs, hk⟩ := hk2
  obtain ⟨v1, r1, rfl, j1, il2⟩ := IsL.inv (d := .str s) (ds := []) il
  obtain ⟨t1, rfl⟩ := j1.str'
  obtain rfl := il2.invNil
  have e12 : ExL x zs2 W2 h2' := G.toL G2 (e.trans G.S.lg.sub e2)
  refine escLoop O hB (y := (x.up zs W h' ge tk).up zs2 W2 h2' ge2 tk2) (Q := fun f s' => match f with
      | .next => wpAny (model c.prog c.w) x.A (execs r x.env) (PS c x kn kc kr) NoE s'
      | f => PS c x kn kc kr f s') G2 hs hk h1 h2 hb (fun l h ge3 tk3 N3 e3 G3 k3 => ?_) fun v l zs3 W3 h ge3 tk3 N3 e3 G3 k3 => ?_
  · exact to_lift G (ExL.trans (l := x.l) (ge := ge2) (tk := tk2) G e12 e3) (hr _ N3 kn kc kr G3 rfl k3)
  · exact ⟨l, zs3, W3, h, ge3, tk3, N3, rfl, ExL.trans (l := x.l) (ge := ge2) (tk := tk2) G e12 e3, G3, k3⟩
end
end

noncomputable section
noncomputable def escG (c : Cf) (tc : CdT) (te : EvT) : List (Nat × List Nat) → List D → List OD → Kt → Prop
  | [], acc, N, k => (∀ d ∈ acc, Sca d) ∧ k (.lst acc) N
  | p :: r, acc, N, k => acc.length ≤ 1000000 ∧ (∀ d ∈ acc, Sca d) ∧ ∀ B, tc (c.wB B) [some (.int (p.1 : Nat)), some (.str ⟨p.2.toArray⟩)] N fun t N' => N' = N ∧ cond t
      (te (c.wB B) [some (.int (p.1 : Nat)), some (.str ⟨p.2.toArray⟩)] N fun y N' => N' = N ∧ Sca y ∧ escG c tc te r (acc ++ [y]) N k) (escG c tc te r acc N k)
noncomputable def eEscC (e : EvT) (tc : CdT) (te : EvT) : EvT := fun c l N k => e c l N fun d N => ∃ s : Str, d = .str s ∧ s.cps.all (· < 128) = true ∧ ScaL l ∧ ScaN N ∧ escG c tc te (units 0 false s.cps.toList) [] N k
section
variable {c : Cf} {x : Sx} {N : List OD} {P P' : Pm} {pos : Pos}
theorem Good.sameZs {y : Sx} {zs : Zs} {l : Loc} {W : List Addr} {h h' : Heap} {ge : Array GenState} {tk : Nat} {W0 : List Addr} {F : List Addr} (hl : y.zs.length = N.length) (G : Good c (y.to l zs W h ge tk) N) (e : Ex F y.zs W0 h' zs W h) : zs = y.zs := by
  obtain ⟨ws, hws⟩ := e.pre
  have a1 : N.length = zs.length := G.S.lg.len
  rw [hws, List.length_append] at a1
  rw [hws, List.length_eq_zero_iff.mp (show ws.length = 0 by omega), List.append_nil]
/-- where a turn of a comprehension over the generator stands -/
structure En (c : Cf) (y : Sx) (N : List OD) (P' : Pm) (cenv : Env) (C Dl a gn : Addr) (U : List (Nat × List Nat)) (acc : List D) (j : Nat) (o1 o2 : Option D) (W : List Addr) (h : Heap) (ge : Array GenState) (tk : Nat) : Prop where
  kp : Keep y.zs.flatten y.h h
  sl : ScaL [o1, o2]
  G : Good c (y.inn cenv C P' [o1, o2] y.zs W h ge tk) N
  lv : ∀ b ∈ y.W, ∃ o, h.get? b = some o
  acc : ∃ vs n, h.get? Dl = some (listOf vs.toArray n) ∧ IsL y.zs y.W h acc vs
  X : EscAt c.prog c.w y.A a gn y.h.objs.size y.g U j h ge
/-- what stands fast -/
structure Ef (c : Cf) (y : Sx) (C Dl a : Addr) : Prop where
  nD : y.h.get? Dl = none
  nC : y.h.get? C = none
  nDz : Dl ≠ y.h.objs.size
  nCz : C ≠ y.h.objs.size
  cd : C ≠ Dl
  ca : C ≠ a
  da : Dl ≠ a
theorem iD {n : Nat} {vs : Array Value} {b z : Addr} (hz : b ≠ z) : ¬ Ity z b (listOf vs n) := fun q => by
  rcases q with q | ⟨_, q, _⟩
  · exact hz q
  · exact absurd q (by show ¬ isIt (.type "list") = true; decide)
theorem En.next {y : Sx} {cenv : Env} {C Dl a gn : Addr} {U : List (Nat × List Nat)} {acc acc' : List D} {j : Nat} {o1 o2 p1 p2 : Option D} {W W8 : List Addr} {h h8 : Heap} {ge : Array GenState} {tk tk8 : Nat} {vs' : List Value} {n' : Nat} (F : Ef c y C Dl a) (hz : ∀ b ∈ y.zs.flatten, b < y.h.objs.size)
    (T : En c y N P' cenv C Dl a gn U acc j o1 o2 W h ge tk) (k : ∀ b o, b ≠ Dl → b ∉ y.zs.flatten → h.get? b = some o → h8.get? b = some o) (sl : ScaL [p1, p2]) (G8 : Good c (y.inn cenv C P' [p1, p2] y.zs W8 h8 ge tk8) N) (lv8 : ∀ b ∈ y.W, ∃ o, h8.get? b = some o)
    (hD : h8.get? Dl = some (listOf vs'.toArray n')) (il : IsL y.zs y.W h8 acc' vs') : En c y N P' cenv C Dl a gn U acc' j p1 p2 W8 h8 ge tk8 :=
  ⟨fun b o n e => k b o (fun r => by rw [r, F.nD] at e; cases e) n (T.kp b o n e), sl, G8, lv8, ⟨vs', n', hD, il⟩,
    T.X.keep (fun b o e i => k b o (fun r => by
      subst r; obtain ⟨_, _, q, _⟩ := T.acc; rw [q] at e; cases e; exact iD F.nDz i) (fun m => not_ity (hz b m) o i) e) fun o e => k a o (Ne.symm F.da) (fun m => Nat.lt_irrefl _ (Nat.lt_trans T.X.lt (hz a m))) e⟩
/-- the generator's step, and its pair laid into the names -/
theorem En.asg (hB : c.B = AllBare) {y : Sx} {n1 n2 : Str} {p1 p2 pt : Pos} {kk : Nat} {scope : Scope} {cenv : Env} {C Dl a gn : Addr} {U : List (Nat × List Nat)} {acc : List D} {j : Nat} {o1 o2 : Option D} {W : List Addr} {h : Heap} {ge : Array GenState} {tk : Nat} {Q : Unit → Shared → Prop} {T : Addr} {p : Nat × List Nat} {tp tu : Tok} (F : Ef c y C Dl a) (hP' : P' = ⟨scope, [n1, n2], P'.gs⟩)
    (E : En c y N P' cenv C Dl a gn U acc j o1 o2 W h ge tk) (hT : h.IsTuple T #[.int (p.1 : Nat) tp, .str ⟨p.2.toArray⟩ tu]) (sacc : ∀ d ∈ acc, Sca d)
    (q : ∀ h tk, En c y N P' cenv C Dl a gn U acc j (some (.int (p.1 : Nat))) (some (.str ⟨p.2.toArray⟩)) W h ge tk → Q () ⟨h, ge, y.dr, tk, y.os⟩) : wpAny (model c.prog c.w) y.A (assign (.Tuple [.Name n1 p1, .Name n2 p2] kk pt) cenv (.ref T)) Q NoE ⟨h, ge, y.dr, tk, y.os⟩ := by
  refine asgT (y := y.inn cenv C P' [o1, o2] y.zs W h ge tk) (i1 := 0) (i2 := 1) (d1 := .int (p.1 : Nat)) (d2 := .str ⟨p.2.toArray⟩) E.G (by show Slot n1 0 P'.vs; rw [hP']; exact .hd) (by show Slot n2 1 P'.vs; rw [hP']; exact .tl .hd) hT .int .str fun h7 tk7 k7 G7 => q h7 tk7 ?_
  have k67 : ∀ b o, b ≠ C → h.get? b = some o → h7.get? b = some o := fun b o n e => k7 b o (fun m => n (List.mem_singleton.mp m)) e
  obtain ⟨vs, n, hD, il⟩ := E.acc
  have nW : ∀ b ∈ y.W, b ≠ C → ∃ o, h7.get? b = some o := fun b m n => let ⟨o, e⟩ := E.lv b m; ⟨o, k67 b o n e⟩
  have hc := G7.S.fr
  refine ⟨fun b o n e => k67 b o (fun r => by rw [r, F.nC] at e; cases e) (E.kp b o n e), fun d m => ?_, G7, fun b m => ?_, ⟨vs, n, k67 _ _ (Ne.symm F.cd) hD, il.1, fun p m => (il.2 p m).sca (sacc _ (List.of_mem_zip m).1)⟩, E.X.keep (fun b o e i => k67 b o (fun r => ?_) e) fun o e => k67 a o (Ne.symm F.ca) e⟩
  · simp only [List.mem_cons, Option.some.injEq, List.not_mem_nil, or_false] at m
    rcases m with rfl | rfl <;> trivial
  · by_cases q : b = C
    · obtain ⟨_, F7, _⟩ := hc
      obtain ⟨o', _, _, ho', _⟩ := F7.ns
      exact ⟨o', q ▸ ho'⟩
    · exact nW b m q
  · obtain ⟨_, F6, _⟩ := E.G.S.fr
    obtain ⟨o', es, ep, ho', hd', _⟩ := F6.ns
    have e' : h.get? C = some o := r ▸ e
    rw [show h.get? C = some o' from ho'] at e'; cases e'
    exact not_ityN ⟨es, ep, hd'⟩ F.nCz (r ▸ i)
inductive Ens (c : Cf) (y : Sx) (N : List OD) (P : Pm) (cenv : Env) (C Dl a gn : Addr) (U : List (Nat × List Nat)) (p : List (Nat × List Nat) → List D → Prop) (n : Nat) (s : Shared) : Prop
  | mk (acc : List D) (j : Nat) (o1 o2 : Option D) (W : List Addr) (h : Heap) (ge : Array GenState) (tk : Nat) (en : n = U.length - j) (hj : j ≤ U.length) (e : s = ⟨h, ge, y.dr, tk, y.os⟩) (T : En c y N P cenv C Dl a gn U acc j o1 o2 W h ge tk) (hk : p (U.drop j) acc)
theorem escComp_loop (hB : c.B = AllBare) {y : Sx} {n1 n2 : Str} {p1 p2 pt : Pos} {kk : Nat} {elt cnd iter : Expr} {scope : Scope} {pos : Pos} {tc : CdT} {te : EvT} {k : Kt} {R : Result → Shared → Prop} {cenv : Env} {C Dl a gn : Addr} {U : List (Nat × List Nat)} {ge0 : Array GenState} {h0 : Heap} {tk0 : Nat} (G : Good c y N) (sN : ScaN N) (zW : ∀ b ∈ y.W, b < y.h.objs.size)
    (hk : escG c tc te U [] N k) (hP' : P' = ⟨scope, [n1, n2], P'.gs⟩) (hc : ∀ B, SndC (c.wB B) P' cnd tc) (he : ∀ B, Snd (c.wB B) P' elt te) (F : Ef c y C Dl a) (T0 : En c y N P' cenv C Dl a gn U [] 0 none none y.W h0 ge0 tk0)
    (hR : ∀ acc o1 o2 h ge tk vs n, Keep y.zs.flatten y.h h → Good c (y.inn cenv C P' [o1, o2] y.zs y.W h ge tk) N → h.get? Dl = some (listOf vs.toArray n) → IsL y.zs y.W h acc vs → k (.lst acc) N → R (.ok .next) ⟨h, ge, y.dr, tk, y.os⟩) :
    codeAny (model c.prog c.w) y.A (.compLoop (.ListComp elt [⟨.Tuple [.Name n1 p1, .Name n2 p2] kk pt, iter, [cnd], 0⟩] scope pos) 0 (.ref a) (.ref Dl) cenv) R ⟨h0, ge0, y.dr, tk0, y.os⟩ := by
  have hlen : y.zs.length = N.length := G.S.lg.len.symm
  have zF : ∀ b ∈ y.zs.flatten, b < y.h.objs.size := fun b m => zW b (G.S.lg.sub b m)
  have notW : ∀ {Z}, y.h.get? Z = none → Z ∉ y.W := fun hn m => by obtain ⟨o, ho⟩ := G.S.lg.live _ m; rw [hn] at ho; cases ho
  have notz : Dl ∉ y.zs.flatten := fun m => notW F.nD (G.S.lg.sub _ m)
  refine comp_turns (Ens c y N P' cenv C Dl a gn U fun us acc => escG c tc te us acc N k) ?_ _ ⟨[], 0, none, none, y.W, h0, ge0, tk0, rfl, Nat.zero_le _, rfl, T0, hk⟩
  clear hk T0
  rintro m _ ⟨acc, j, o1, o2, W, h, ge, tk, rfl, hj, rfl, T, hk⟩
  obtain ⟨vs, n, haD, il⟩ := T.acc
  have kG : ∀ {h'}, KeepG y.h.objs.size h h' → Keep y.zs.flatten y.h h' := fun k b o n e => k b o (T.kp b o n e) (not_ity (Heap.lt_size e) o)
  refine escTurn (x := y.inn cenv C P' [] y.zs y.W y.h y.ge y.tk) hB F.nCz zW T.G T.sl sN G.S.lg.sub T.lv T.X hj (fun Tp p tp tu h6 ge6 tk6 hu hT k6 lv6 G6 X6 => ?_) fun e h6 ge6 tk6 k6 lv6 G6 => ?_
  · rw [drop_at hu] at hk
    have hjl := (List.getElem?_eq_some_iff.mp hu).1
    obtain ⟨hsz, sacc, hk⟩ := hk
    have hk := hk (fun ge => ge = ge6)
    have T6 : En c y N P' cenv C Dl a gn U acc (j + 1) o1 o2 y.W h6 ge6 tk6 := ⟨kG k6, T.sl, G6, lv6, ⟨vs, n, k6 _ _ haD (iD F.nDz), il.1, fun p m => (il.2 p m).sca (sacc _ (List.of_mem_zip m).1)⟩, X6⟩
    refine letOwned_gen X6.gen (T6.asg hB F hP' hT sacc fun h7 tk7 T7 => ?_)
    clear T6 T X6 G6 hT haD il
    obtain ⟨vs, n, haD7, il⟩ := T7.acc
    refine wpAny_mono (wpAny_tests_one (hc (fun ge => ge = ge6) (y.inn cenv C P' _ y.zs y.W h7 ge6 tk7) N _ ⟨T7.G.R, T7.G.C, T7.G.E, T7.G.ok, T7.G.S, rfl⟩ rfl hk)) (fun ok' s8 z => ?_) fun _ _ z => z
    obtain ⟨zs8, W8, h8, ge8, tk8, N8, rfl, e8, G8', rfl, q⟩ := z
    obtain rfl : ge8 = ge6 := G8'.b
    obtain rfl := G8'.sameZs (y := y.inn cenv C P' [] y.zs y.W y.h y.ge y.tk) hlen e8
    have haD8 := e8.kp _ _ notz haD7
    have T8 : En c y N8 P' cenv C Dl a gn U acc (j + 1) _ _ W8 h8 ge8 tk8 := T7.next F zF (fun b o _ nz e => e8.kp b o nz e) T7.sl ⟨G8'.R, G8'.C, G8'.E, G8'.ok, G8'.S, T7.G.b⟩ (fun b m => G8'.S.lg.live b (e8.sub b m)) haD8 ⟨il.1, fun p m => (il.2 p m).sca (sacc _ (List.of_mem_zip m).1)⟩
    cases ok' with
    | false => exact ⟨_, Nat.sub_succ_lt_self _ _ hjl, acc, j + 1, _, _, W8, h8, ge8, tk8, rfl, hjl, rfl, T8, q⟩
    | true =>
      refine wpAny_mono (he (fun ge => ge = ge8) (y.inn cenv C P' _ y.zs W8 h8 ge8 tk8) N8 _ G8' rfl q) (fun v9 s9 z => ?_) fun _ _ z => z
      obtain ⟨zs9, W9, h9, ge9, tk9, d9, N9, rfl, e9, G9', i9, rfl, s9, q9⟩ := z
      obtain rfl : ge9 = ge8 := G9'.b
      obtain rfl := G9'.sameZs (y := y.inn cenv C P' [] y.zs y.W y.h y.ge y.tk) hlen e9
      have haD9 := e9.kp _ _ notz haD8
      refine append_at (s := ⟨h9, ge9, y.dr, tk9, y.os⟩) haD9 (fun h10 sb10 ha10 => ?_) (by rw [List.size_toArray, il.1]; exact Nat.le_trans hsz (by decide))
      have k910 : ∀ b o, b ≠ Dl → h9.get? b = some o → h10.get? b = some o := fun b o n e => (sb10.2 b n).trans e
      have kW : ∀ b ∈ y.W, ∃ o, h9.get? b = some o ∧ h10.get? b = some o := fun b m => by
        obtain ⟨o, e⟩ := G9'.S.lg.live b (e9.sub b (e8.sub b m))
        exact ⟨o, e, k910 b o (fun r => notW F.nD (r ▸ m)) e⟩
      have G10 := Good.sca (x := y.inn cenv C P' [] y.zs y.W y.h y.ge y.tk) (W' := y.W) (h' := h10) (ge' := ge9) (tk' := tk9) (N := N9) (c := c) ⟨G9'.R, G9'.C, G9'.E, G9'.ok, G9'.S, T7.G.b⟩ T7.sl sN G.S.lg.sub kW (fun o e => k910 C o F.cd e)
        (fun b o e => k910 b o (fun r => by rw [r] at e; have := G.S.sub _ _ e; rw [F.nD] at this; cases this) (G9'.S.sub b o e)) T7.G.b
      have T10 : En c y N9 P' cenv C Dl a gn U (acc ++ [d9]) (j + 1) _ _ y.W h10 ge9 tk9 := T8.next F zF (fun b o nd nz e => k910 b o nd (e9.kp b o nz e)) T7.sl G10 (fun b m => let ⟨o, _, e⟩ := kW b m; ⟨o, e⟩) (vs' := vs ++ [v9]) (n' := n + 1) (by rw [ha10]; simp)
        (.append ⟨il.1, fun p m => (il.2 p m).sca (sacc _ (List.of_mem_zip m).1)⟩ (.cons (i9.sca s9) .nil))
      exact ⟨_, Nat.sub_succ_lt_self _ _ hjl, acc ++ [d9], j + 1, _, _, y.W, h10, ge9, tk9, rfl, hjl, rfl, T10, q9⟩
  · rw [e, List.drop_length] at hk
    exact hR acc o1 o2 h6 ge6 tk6 vs n (kG k6) G6 (k6 _ _ haD (iD F.nDz)) ⟨il.1, fun p m => (il.2 p m).sca (hk.1 _ (List.of_mem_zip m).1)⟩ hk.2
theorem escComp (O : c.Ok) (hB : c.B = AllBare) {y : Sx} {s : Str} {t : Tok} {n1 n2 : Str} {p1 p2 pt : Pos} {kk : Nat} {elt cnd iter : Expr} {scope : Scope} {tc : CdT} {te : EvT} {k : Kt} {RR : Value → Env → Result → Shared → Prop} (G : Good c y N) (hs : s.cps.all (· < 128) = true) (sl : ScaL y.l) (sN : ScaN N)
    (hk : escG c tc te (units 0 false s.cps.toList) [] N k) (hP' : P' = ⟨scope, [n1, n2], P'.gs⟩) (ok : P'.Ok) (hcs : CompOk scope) (hc : ∀ B, SndC (c.wB B) P' cnd tc) (he : ∀ B, Snd (c.wB B) P' elt te) (hR : CmpR c y k RR) :
    wpx c y (call (.ref 35) [.str s t]) (fun v s₁ => wpAny (model c.prog c.w) y.A (pyIter v) (fun it s₂ => wpAny (model c.prog c.w) y.A (newList []) (fun acc s₃ => wpAny (model c.prog c.w) y.A (newFunctionEnv scope y.env.globals [] [] y.env.qual none .none (some y.env)) (fun cenv s₄ =>
      codeAny (model c.prog c.w) y.A (.compStart (.ListComp elt [⟨.Tuple [.Name n1 p1, .Name n2 p2] kk pt, iter, [cnd], 0⟩] scope pos) 0 it acc { cenv with scope := scope }) (RR acc { cenv with scope := scope }) s₄) NoE s₃) NoE s₂) NoE s₁) := by
  have zW : ∀ b ∈ y.W, b < y.h.objs.size := fun b m => let ⟨o, e⟩ := G.S.lg.live b m; Heap.lt_size e
  refine escMk O hB G hs fun a gn h3 ge3 tk3 k3 hb3 hL X => wpAny_pyIter_gen X.gen ?_
  refine wpAny_newObj_type (hd := by size_fits) (wpAny_newFunctionEnv hcs.cell (by intro y hy; simp at hy) (fun h5 hns hsb => ?_) hcs.k)
  dsimp only at hns hsb ⊢
  have ha3 : a < h3.objs.size := let ⟨o, _, _, ho, _⟩ := X.gen; Heap.lt_size ho
  have hsz : y.h.objs.size < h3.objs.size := Nat.lt_trans X.lt ha3
  have sD : (h3.push (listOf #[] 0)).objs.size = h3.objs.size + 1 := Heap.size_push ..
  have kC : Sub (h3.push (listOf #[] 0)) h5 := fun b o e => hsb.extBut b o (Nat.ne_of_lt (Heap.lt_size e)) (Heap.get?_push_of_some _ e)
  have k35 : Sub h3 h5 := sub_push.trans kC
  have fresh : ∀ {Z}, h3.objs.size ≤ Z → y.h.get? Z = none := fun {Z} hz => by
    cases q : y.h.get? Z with
    | none => rfl
    | some o => exact absurd (Heap.lt_size (k3 _ _ q)) (Nat.not_lt.mpr hz)
  have lC : h3.objs.size < (h3.push (listOf #[] 0)).objs.size := by rw [sD]; exact Nat.lt_succ_self _
  have F : Ef c y (h3.push (listOf #[] 0)).objs.size h3.objs.size a := ⟨fresh (Nat.le_refl _), fresh (Nat.le_of_lt lC), Nat.ne_of_gt hsz, Nat.ne_of_gt (Nat.lt_trans hsz lC), Nat.ne_of_gt lC, Nat.ne_of_gt (Nat.lt_trans ha3 lC), Nat.ne_of_gt ha3⟩
  have notW : ∀ {Z}, y.h.get? Z = none → Z ∉ y.W := fun hn m => by obtain ⟨o, ho⟩ := G.S.lg.live _ m; rw [hn] at ho; cases ho
  have hLC : y.L ≠ (h3.push (listOf #[] 0)).objs.size := fun q => by obtain ⟨o, ho⟩ := G.liveL; rw [q, F.nC] at ho; cases ho
  obtain ⟨mo, Fo, hlo⟩ := G.S.fr
  have k05 : Sub y.h h5 := k3.trans k35
  have T0 : En c y N P' { newEnv scope (h3.push (listOf #[] 0)).objs.size y.env.globals [] y.env.qual none .none (some y.env) builtinsNs with scope := scope } (h3.push (listOf #[] 0)).objs.size h3.objs.size a gn (units 0 false s.cps.toList) [] 0 none none y.W h5 ge3 (tk3 + ([] : List (Str × Value)).length) :=
    ⟨fun b o _ e => k05 b o e, fun d m => by simp at m, ⟨G.R, G.C, ⟨by rw [hP'], rfl, G.E.gl, G.E.bi⟩, ok, ⟨⟨_, ⟨hns, fun b o e => k05 b o (Fo.keep b o e), Nat.le_trans Fo.above (Nat.le_of_lt (Nat.lt_trans (Heap.lt_size (k3 _ _ G.liveL.choose_spec)) lC))⟩, fun i y d a b => by rcases i with _ | _ | i <;> simp at b⟩,
        fun b m => ⟨fun e => notW F.nC (by have e' : b = (h3.push (listOf #[] 0)).objs.size := e; rw [← e']; exact G.S.lg.sub b m), (G.S.off b m).2⟩, G.S.lg.ext k05⟩, hB ▸ hb3⟩, fun b m => let ⟨o, e⟩ := G.S.lg.live b m; ⟨o, k05 b o e⟩, ⟨[], 0, kC _ _ (Heap.get?_push_size _ rfl), .nil⟩, X.keep (fun b o e _ => k35 b o e) fun o e => k35 _ o e⟩
  refine (fun loop => codeAny_compStart_list loop (wpAny_pyIter_gen T0.X.gen loop)) (escComp_loop hB G sN zW hk hP' hc he F T0 fun acc o1 o2 h6 ge6 tk6 vs n kp6 G6 haD il hk6 => ?_)
  obtain ⟨mi, Fi, _⟩ := G6.S.fr
  refine hR _ _ y.zs y.W h6 ge6 tk6 N acc mi ⟨⟨[], by simp⟩, fun _ m => m, fun _ m => .inl m, fun _ m => .inl m, kp6, fun _ m => .inl m⟩ ?_ (.lst ⟨_, haD, rfl, _, rfl⟩ (notW F.nD) il.1 il.2) Fi.ns (Ne.symm hLC) F.nC (notW F.nC) hk6
  refine ⟨G.R, G.C, G.E, G.ok, ⟨⟨mo, ⟨Fo.ns.at' fun o e => kp6 _ o (fun m => (G.S.off _ m).1 rfl) e, fun b o e => kp6 b o (fun m => by rw [(G.S.off b m).2] at e; cases e) (Fo.keep b o e), Fo.above⟩, fun i z d a b => ?_⟩, G.S.off, G6.S.lg⟩, G6.b⟩
  obtain ⟨v, hv, iv⟩ := hlo i z d a b
  exact ⟨v, hv, iv.sca (sl d (List.mem_of_getElem? b))⟩
theorem CmpB.esc (O : c.Ok) (hB : c.B = AllBare) {n1 n2 : Str} {ig kk : Nat} {a elt cnd : Expr} {t : EvT} {p1 p2 p3 p4 pt : Pos} {scope : Scope} {tc : CdT} {te : EvT} (hg : Slot (Str.ofString "_iter_escaped_chars") ig P.gs) (ha : Snd c P a t) (hse : ∀ env, starEach [a] env = [(false, eval a env)])
    (sh : CallShape (.Name (Str.ofString "_iter_escaped_chars") p3) [a] p4) (hP' : P' = ⟨scope, [n1, n2], P'.gs⟩) (ok : P'.Ok) (hcs : CompOk scope) (hc : ∀ B, SndC (c.wB B) P' cnd tc) (he : ∀ B, Snd (c.wB B) P' elt te) :
    CmpB c P elt (.Tuple [.Name n1 p1, .Name n2 p2] kk pt) (.Call (.Name (Str.ofString "_iter_escaped_chars") p3) [a] [] p4) [cnd] scope pos (eEscC t tc te) := fun x N k RR G hP h hR => by
  subst hP
  rw [sh]
  refine wpAny_bind (PE.bind (k1 := fun d N' => d = .val (.ref 35) ∧ N' = N) (Snd.glo (c := c) (P := x.P) O hg (by (with_reducible (repeat (first | exact At.hd | apply At.tl)))) x N _ G rfl ⟨rfl, rfl⟩) fun zs W h' ge tk v d N1 e G1 i hk' => ?_)
  obtain ⟨rfl, rfl⟩ := hk'
  rw [i.val']
  refine callR (P := x.P) (first := []) (fds := []) (kk := fun ds N1 => match ds with
    | [d] => ∃ s : Str, d = .str s ∧ s.cps.all (· < 128) = true ∧ ScaL x.l ∧ ScaN N1 ∧ escG c tc te (units 0 false s.cps.toList) [] N1 k
    | _ => False) G1 rfl .nil (SndA.cons ha .nil (fun env => hse env)) (show aCons t aNil c x.l N1 _ from h) (fun ds N2 zs2 W2 h2' ge2 tk2 vs hk2 e2 G2 il => ?_) (AOk.cons AOk.nil (fun env => hse env)) (.inr (.inr O.hK.fIter.keep))
  obtain ⟨d, r1, rfl⟩ : ∃ d r, ds = d :: r := by cases ds with
    | nil => exact hk2.elim
    | cons d r => exact ⟨d, r, rfl⟩
  obtain rfl : r1 = [] := by cases r1 with
    | nil => rfl
    | cons => exact hk2.elim
  obtain ⟨s, rfl, hs, sl, sN, hk⟩ := hk2
  obtain ⟨v1, r1, rfl, j1, il2⟩ := IsL.inv (d := .str s) (ds := []) il
  obtain ⟨t1, rfl⟩ := j1.str'
  obtain rfl := il2.invNil
  have e12 := e.trans G.S.lg.sub e2
  refine escComp O hB (y := (x.up zs W h' ge tk).up zs2 W2 h2' ge2 tk2) G2 hs sl sN hk hP' ok hcs hc he fun Dl cenv zs3 W3 h3 ge3 tk3 N3 acc m e3 G3 iD hns hL hn hCW hkf => hR Dl cenv zs3 W3 h3 ge3 tk3 N3 acc m (e12.trans G.S.lg.sub e3) G3 iD hns hL ?_ hCW hkf
  cases q : x.h.get? cenv.locals with
  | none => rfl
  | some o =>
    by_cases hm : cenv.locals ∈ x.zs.flatten
    · obtain ⟨o', ho'⟩ := G2.S.lg.live _ (e12.sub _ (G.S.lg.sub _ hm)); rw [hn] at ho'; cases ho'
    · rw [e12.kp _ _ hm q] at hn; cases hn
end
end

noncomputable section
noncomputable abbrev Cf.wN (c : Cf) (n : Nat) : Cf := ⟨c.prog, c.w, c.X, c.K, n, c.B⟩
section
variable {c : Cf}
theorem zip_at {α β : Type} : ∀ {l : List α} {m : List β} {i : Nat} {a : α} {b : β}, l[i]? = some a → m[i]? = some b → (a, b) ∈ l.zip m
  | a :: _, b :: _, 0, _, _, e, f => by cases e; cases f; exact .head _
  | _ :: _, _ :: _, i + 1, _, _, e, f => .tail _ (zip_at (i := i) e f)
theorem enterX {f cc : Addr} {st : Stmt} {q : Str} {P : Pm} {ds : List D} {N : List OD} {k : Kt} {t : SxT} {n m : Nat} (hn : c.n = n + 1) (FK : FnK c.K f st q cc) (hP : P.cs = scopeOf st) (ok : P.Ok) (pl : Plain st) (hm : ds.length = m) (hv : m ≤ P.vs.length)
    (hbind : ∀ vs : List Value, vs.length = m → ∀ doc pm an ct, bindArgs (fnX (nameOf st) q (paramsOf st) (bodyOf st) (scopeOf st) [] .none .none doc pm an (.ref cc) ct) ⟨vs, []⟩ = pure ((P.vs.take m).zip vs))
    {body : List Stmt} (hb : bodyOf st = body) (hs : SndS (c.wN n) P body t) (ht : t (c.wN n) (ds.map some ++ List.replicate (P.vs.length - m) none) N (fun _ N => k .none N) (fun _ N => k .none N) k) : CallOk c f ds N k := fun A B h zs W ge dr tk os vs R C sB lg hz hB il => by
  have hvs : vs.length = m := il.1.trans hm
  have live : ∀ b ∈ zs.flatten, h.get? b = some ((h.get? b).getD (listOf #[] 0)) := fun b m => by
    obtain ⟨o, e⟩ := lg.live b (lg.sub b m); rw [e]; rfl
  have tk_ : (P.vs.take m).length = m := by rw [List.length_take]; exact Nat.min_eq_left hv
  have hmem : ∀ x ∈ (P.vs.take m), P.cs.names.lookup x = some .local ∧ (x == ("__debug__" : Str)) = false := fun x hx => ok.v x (List.mem_of_mem_take hx)
  refine enter (B := B) (news := zs.flatten.map fun b => (b, (h.get? b).getD (listOf #[] 0))) (names := P.vs.take m) (kt := (P.vs.take m).map fun x => (x, .local)) (n := c.n) R FK C sB (fun p hp => ?_) (hbind vs hvs) ⟨hP ▸ ok.k, fun p hp => ?_, fun p hp => ?_⟩ (fun p hp => ?_)
    (List.map_fst_zip (by rw [tk_, hvs]; exact Nat.le_refl _)) ((List.take_sublist _ _).nodup ok.n) hb pl fun g L h₁ sg Cg Fg Ng kp => ?_
  · obtain ⟨b, hb', rfl⟩ := List.mem_map.mp hp
    exact ⟨live b hb', hz b hb'⟩
  · obtain ⟨x, hx, rfl⟩ := List.mem_map.mp hp
    rw [← hP]; exact (hmem x hx).1
  · obtain ⟨x, hx, rfl⟩ := List.mem_map.mp hp
    exact (hmem x hx).2
  · exact List.mem_map.mpr ⟨p.1, (List.of_mem_zip hp).1, rfl⟩
  have off : ∀ b ∈ zs.flatten, h₁.get? b = some ((h.get? b).getD (listOf #[] 0)) ∧ b ≠ L ∧ g.get? b = none := fun b m => Ng (b, _) (List.mem_map.mpr ⟨b, m, rfl⟩)
  have kz : ∀ b, b ∉ zs.flatten → ∀ o, h.get? b = some o → g.get? b = some o := fun b nb o e => kp b o (fun m => by
    rw [List.map_map] at m
    obtain ⟨b', hb', rfl⟩ := List.mem_map.mp m
    exact nb hb') e
  have kh : Sub h h₁ := fun b o e => by
    by_cases m : b ∈ zs.flatten
    · rw [(off b m).1, e]; rfl
    · exact Fg.keep b o (kz b m o e)
  have nL : h.get? L = none := by
    cases e : h.get? L with
    | none => rfl
    | some o =>
      by_cases m : L ∈ zs.flatten
      · exact absurd rfl (off L m).2.1
      · exact absurd (Heap.lt_size (kz L m o e)) (Nat.not_lt.mpr Fg.above)
  have G : Good (c.wN n) ⟨A.deeper (envX q (scopeOf st) L f (.ref cc) []), envX q (scopeOf st) L f (.ref cc) [], g, L, P, ds.map some ++ List.replicate (P.vs.length - m) none, dr, os, zs, W, h₁, ge, tk + ((P.vs.take m).zip vs).length⟩ N := by
    obtain ⟨mm, Fr', hl⟩ := Fg
    refine ⟨(hn ▸ R : Rm A (n + 1)).deeper _, Cg, ⟨hP.symm, rfl, rfl, rfl⟩, ok, ⟨⟨mm, Fr', fun i y d a b => ?_⟩, fun b m => (off b m).2, lg.ext kh⟩, hB⟩
    have hi : i < ds.length := by
      rcases Nat.lt_or_ge i ds.length with q | q
      · exact q
      · rw [List.getElem?_append_right (by simpa using q), List.getElem?_replicate] at b
        split at b <;> simp at b
    rw [List.getElem?_append_left (by simpa using hi), List.getElem?_map] at b
    obtain ⟨d', hd', e⟩ := Option.map_eq_some_iff.mp b
    cases e
    obtain ⟨v, hv', iv⟩ := il.get hd'
    exact ⟨v, hl (y, v) (zip_at (by rw [List.getElem?_take_of_lt (hm ▸ hi)]; exact a) hv'), (lg.ext kh |> fun _ => iv.per0 (.ofSub kh : Ex0 zs W h zs W h₁) lg.sub)⟩
  refine wpAny_mono (hs _ N _ _ k G rfl ht) (fun fl s' z => ?_) fun _ _ z => z
  obtain ⟨l, zs', W', h', ge', tk', N', rfl, e, G', q⟩ := z
  have back : ∀ b, h₁.get? b = none → h.get? b = none := fun b e1 => by
    cases e2 : h.get? b with
    | none => rfl
    | some o => rw [kh b o e2] at e1; cases e1
  have e0 : Ex0 zs W h zs' W' h' := ⟨e.pre, e.sub, fun b m => (e.new b m).imp id (back b), fun b m => (e.nw b m).imp id (back b), fun b o nb e1 => e.kp b o (fun m => by
    rcases List.mem_cons.mp m with r | m
    · have r' : b = L := r
      rw [r', nL] at e1; cases e1
    · exact nb m) (kh b o e1), fun b m => .inl m⟩
  cases fl with
  | next => exact ⟨h', ge', tk', zs', W', .none, N', rfl, G'.b, e0, G'.S.lg, .none, q⟩
  | cont => exact ⟨h', ge', tk', zs', W', .none, N', rfl, G'.b, e0, G'.S.lg, .none, q⟩
  | brk => exact q.elim
  | ret v => obtain ⟨d, iv, hk⟩ := q; exact ⟨h', ge', tk', zs', W', d, N', rfl, G'.b, e0, G'.S.lg, iv, hk⟩
end
end

noncomputable section
@[reducible] noncomputable def P60 : Pm := ⟨scopeOf (stAt 60), [Str.ofString "x"], [Str.ofString "ENDMARKER"]⟩
theorem ok60 : P60.Ok := .of (by kernel_rfl) (by decide +kernel) (by decide +kernel) (by decide +kernel)
theorem pl60 : Plain (stAt 60) := ⟨by kernel_rfl, by kernel_rfl, by decide +kernel⟩
section
variable {c : Cf} {N : List OD} {k : Kt} {n : Nat}
theorem CmpOk.eqIV {a b : Int} {u : Tok} (hk : k (.bool (a == b)) N) : CmpOk c .Eq (.int a) (.val (.int b u)) N k := fun x va vb G ia ib => by
  obtain ⟨t, rfl⟩ := ia.int'; obtain rfl := ib.val'; exact eq_int (.mkT G .bool hk)
theorem iseof_ok (O : c.Ok) (hn : c.n = n + 1) {x : Int} (hk : k (.bool (x == 0)) N) : CallOk c 101 [.int x] N k := by
  refine' enterX (P := P60) (m := 1) hn O.hK.fIseof rfl ok60 pl60 rfl (by decide) ?b (by conv => lhs; whnf) ?s ?h
  case b => intro vs hv; intros; obtain ⟨a, rfl⟩ := List.length_eq_one_iff.mp hv; kernel_rfl
  case s =>
    have O : (c.wN n).Ok := ⟨O.hK, O.HL⟩
    repeat (any_goals ((with_reducible first | exact SndS.nil | refine' SndS.ret _ | refine' SndS.asg (by ((with_reducible (repeat (first | exact Slot.hd | apply Slot.tl))))) _ (by (with_unfolding_all exact fun _ => rfl)) _ | refine' SndS.aug (by ((with_reducible (repeat (first | exact Slot.hd | apply Slot.tl))))) _ _ | refine' SndS.iff _ _ _ _ | refine' SndS.exp _ (by (with_unfolding_all exact fun _ => rfl)) _ | (refine' SndS.forE (by assumption) (by assumption) (by ((with_reducible (repeat (first | exact Slot.hd | apply Slot.tl))))) (by ((with_reducible (repeat (first | exact Slot.hd | apply Slot.tl))))) (by ((with_reducible (repeat (first | exact Slot.hd | apply Slot.tl))))) _ (by (with_unfolding_all exact fun _ => rfl)) (by (with_unfolding_all exact fun _ => rfl)) _ _) | refine' SndS.allB (fun _ _ => _) (by assumption) | refine' SndC.allB (fun _ _ => _) (by assumption) | refine' Snd.allB (fun _ _ => _) (by assumption) | refine' SndS.for1 (by ((with_reducible (repeat (first | exact Slot.hd | apply Slot.tl))))) _ (by (with_unfolding_all exact fun _ _ => rfl)) _ _ | refine' SndS.wh _ _ _ | refine' SndC.cmp _ _ (by with_unfolding_all rfl) | refine' SndC.nt _ | refine' SndC.or _ _ | refine' SndC.val _ (by (with_unfolding_all exact fun _ _ => rfl)) | exact Snd.cint | exact Snd.cstr | exact Snd.cnone | exact Snd.cbool | exact Snd.cflt | (apply Snd.loc; (focus (((with_reducible (repeat (first | exact Slot.hd | apply Slot.tl)))); done))) | (apply Snd.glo; (focus assumption); (focus (((with_reducible (repeat (first | exact Slot.hd | apply Slot.tl)))); done)); (focus ((with_reducible (repeat (first | exact At.hd | apply At.tl))); done))) | (apply Snd.blt; (focus assumption); (focus (((with_reducible (repeat (first | exact Slot.hd | apply Slot.tl)))); done)); (focus ((with_reducible (repeat (first | exact At.hd | apply At.tl))); done)); (focus ((with_reducible (repeat (first | exact At.hd | apply At.tl))); done))) | refine' Snd.bin _ _ | refine' Snd.cmp _ _ (by with_unfolding_all rfl) | refine' Snd.see _ _ _ | refine' Snd.sen _ _ | refine' Snd.sne _ _ | refine' Snd.idx _ _ (by (with_unfolding_all exact fun _ _ => rfl)) | refine' Snd.att _ (by (with_unfolding_all exact fun _ => rfl)) | refine' Snd.ite _ _ _ | refine' Snd.and _ _ | refine' Snd.and1 _ | refine' Snd.meth (n := Str.ofString "get_token") (f := .ref 77) _ _ _ (.inr (.inr (Cf.Ok.hK (by assumption)).fGet.keep)) (by intro _; exact ⟨_, by with_unfolding_all rfl⟩) | refine' Snd.meth (n := Str.ofString "push_token") (f := .ref 84) _ _ _ (.inr (.inr (Cf.Ok.hK (by assumption)).fPush.keep)) (by intro _; exact ⟨_, by with_unfolding_all rfl⟩) | refine' Snd.meth (n := Str.ofString "append") (f := .builtin "list.append") _ _ _ (.inl ⟨_, rfl⟩) (by intro _; exact ⟨_, by with_unfolding_all rfl⟩) | refine' Snd.meth (n := Str.ofString "count") (f := .builtin "str.count") _ _ _ (.inl ⟨_, rfl⟩) (by intro _; exact ⟨_, by with_unfolding_all rfl⟩) | refine' Snd.meth (n := Str.ofString "split") (f := .builtin "str.split") _ _ _ (.inl ⟨_, rfl⟩) (by intro _; exact ⟨_, by with_unfolding_all rfl⟩) | refine' Snd.meth (n := Str.ofString "join") (f := .builtin "str.join") _ _ _ (.inl ⟨_, rfl⟩) (by intro _; exact ⟨_, by with_unfolding_all rfl⟩) | refine' Snd.meth (n := Str.ofString "get") (f := .builtin "dict.get") _ _ _ (.inl ⟨_, rfl⟩) (by intro _; exact ⟨_, by with_unfolding_all rfl⟩) | (apply Snd.callB; (focus (apply Snd.blt; (focus assumption); (focus (((with_reducible (repeat (first | exact Slot.hd | apply Slot.tl)))); done)); (focus ((with_reducible (repeat (first | exact At.hd | apply At.tl))); done)); (focus ((with_reducible (repeat (first | exact At.hd | apply At.tl))); done)))); rotate_left 2; (focus ((with_unfolding_all exact fun _ => rfl)))) | (apply Snd.callT; (focus (apply Snd.blt; (focus assumption); (focus (((with_reducible (repeat (first | exact Slot.hd | apply Slot.tl)))); done)); (focus ((with_reducible (repeat (first | exact At.hd | apply At.tl))); done)); (focus ((with_reducible (repeat (first | exact At.hd | apply At.tl))); done)))); rotate_left 2; (focus ((with_unfolding_all exact fun _ => rfl)))) | (apply Snd.callF; (focus assumption); (focus (apply Snd.glo; (focus assumption); (focus (((with_reducible (repeat (first | exact Slot.hd | apply Slot.tl)))); done)); (focus ((with_reducible (repeat (first | exact At.hd | apply At.tl))); done)))); (focus ((first | exact (Cf.Ok.hK (by assumption)).fHls | exact (Cf.Ok.hK (by assumption)).fHsv | exact (Cf.Ok.hK (by assumption)).fIter | exact (Cf.Ok.hK (by assumption)).fStrip | exact (Cf.Ok.hK (by assumption)).fCheck | exact (Cf.Ok.hK (by assumption)).fIseof | exact (Cf.Ok.hK (by assumption)).fTree | exact (Cf.Ok.hK (by assumption)).fWords | exact (Cf.Ok.hK (by assumption)).fSpelled | exact (Cf.Ok.hK (by assumption)).fLexer | exact (Cf.Ok.hK (by assumption)).fNumber | exact (Cf.Ok.hK (by assumption)).fPlay | exact (Cf.Ok.hK (by assumption)).fWorth | exact (Cf.Ok.hK (by assumption)).fRoads | exact (Cf.Ok.hK (by assumption)).fInit | exact (Cf.Ok.hK (by assumption)).fRead | exact (Cf.Ok.hK (by assumption)).fGet | exact (Cf.Ok.hK (by assumption)).fPush))); rotate_left 2; (focus ((with_unfolding_all exact fun _ => rfl)))) | refine' Snd.mkl _ | refine' Snd.mkt _ | exact SndA.nil | refine' SndA.cons _ _ (by (with_unfolding_all exact fun _ => rfl)) | exact AOk.nil | refine' AOk.cons _ (by (with_unfolding_all exact fun _ => rfl)))))
  case h => exact CmpOk.eqIV hk
end
end

noncomputable section
section
variable {c : Cf} {N : List OD} {k : Kt} {n : Nat}
theorem Cf.Ok.wB {B : Array GenState → Prop} (O : c.Ok) : (c.wB B).Ok := ⟨O.hK, O.HL⟩
theorem Cf.Ok.wN (O : c.Ok) : (c.wN n).Ok := ⟨O.hK, O.HL⟩
theorem SndS.allB {P : Pm} {b : List Stmt} {t : SxT} (h : ∀ B, (c.wB B).Ok → SndS (c.wB B) P b t) (O : c.Ok) : ∀ B, SndS (c.wB B) P b t := fun B => h B O.wB
theorem SndC.allB {P : Pm} {b : Expr} {t : CdT} (h : ∀ B, (c.wB B).Ok → SndC (c.wB B) P b t) (O : c.Ok) : ∀ B, SndC (c.wB B) P b t := fun B => h B O.wB
theorem Snd.allB {P : Pm} {b : Expr} {t : EvT} (h : ∀ B, (c.wB B).Ok → Snd (c.wB B) P b t) (O : c.Ok) : ∀ B, Snd (c.wB B) P b t := fun B => h B O.wB
-- what a call's ledger leaves behind is let go
noncomputable def Clo (n : Nat) : D → Prop
  | .ob i => i < n
  | .sub i _ => i < n
  | .lst _ => False
  | .tup _ => False
  | .rng _ _ => False
  | _ => True
noncomputable def CloN (n : Nat) (N : List OD) : Prop := ∀ od ∈ N, match od with
  | .lst ds => ∀ d ∈ ds, Clo n d
  | .lex _ _ _ => True
  | .cit _ _ => False
theorem Is.cut {zs ws : Zs} {W : List Addr} {h : Heap} {d : D} {v : Value} (s : Clo zs.length d) (i : Is (zs ++ ws) W h d v) : Is zs W h d v := by
  cases i with
  | none => exact .none
  | bool => exact .bool
  | int => exact .int
  | str => exact .str
  | flt => exact .flt
  | val => exact .val
  | lst => exact s.elim
  | tup => exact s.elim
  | rng => exact s.elim
  | ob e => exact .ob (List.getElem?_append_left (l₂ := ws) s ▸ e)
  | sub e f => exact .sub (List.getElem?_append_left (l₂ := ws) s ▸ e) f
theorem CallOk.cut {f : Addr} {ds : List D} (h : CallOk c f ds N fun d N' => Clo N.length d ∧ CloN N.length (N'.take N.length) ∧ k d (N'.take N.length)) : CallOk c f ds N k := fun A B hp zs W ge dr tk os vs R C sB lg hz hB il =>
  codeAny_mono (h A B hp zs W ge dr tk os vs R C sB lg hz hB il) fun r s' z => by
    rcases r with e | (_ | _ | _ | v) <;> first | exact z.elim | skip
    obtain ⟨h', ge', tk', zs', W', d, N', rfl, hb, e, lg', i, c1, c2, hk⟩ := z
    obtain ⟨⟨ws, rfl⟩, e2, e3, e4, e5, e6⟩ := e
    have hl : N.length = zs.length := lg.len
    have hl' : N'.length = zs.length + ws.length := by rw [← List.length_append]; exact lg'.len
    have fl : (zs ++ ws).flatten = zs.flatten ++ ws.flatten := List.flatten_append
    refine ⟨h', ge', tk', zs, W', d, N'.take N.length, rfl, hb, ⟨⟨[], by simp⟩, e2, e3, fun b m => .inl m, e5, fun b m => .inl m⟩, ⟨?_, fun b m => lg'.sub b (by rw [fl]; exact List.mem_append_left _ m), lg'.live, ?_, fun i od z a b => ?_⟩, i.cut (hl ▸ c1), hk⟩
    · have := lg'.nd; rw [fl] at this; exact (List.nodup_append.mp this).1
    · rw [List.length_take, hl', hl]; omega
    · have hi : i < N.length := by have := (List.getElem?_eq_some_iff.mp b).1; omega
      have q := lg'.obs i od z (by rw [List.getElem?_take_of_lt hi] at a; exact a) (by rw [List.getElem?_append_left (hl ▸ hi)]; exact b)
      have cl := c2 od (List.mem_of_getElem? a)
      cases od with
      | lst ds => obtain ⟨a', vs, n, rfl, ha, hi⟩ := q; exact ⟨a', vs, n, rfl, ha, hi.1, fun p m => (hi.2 p m).cut (hl ▸ cl p.1 (List.of_mem_zip m).1)⟩
      | lex => exact q
      | cit => exact cl.elim
theorem CmpOk.notInS {s t : Str} (hk : k (.bool !(!(Builtin.Str.occurrences t s 0 t.length 1).isEmpty)) N) : CmpOk c .NotIn (.str s) (.str t) N k := onSS (fun x _ _ G => PyProof.Rows.notIn_str (.mkT G .bool hk))
theorem CmpOk.isN0 (hk : k (.bool true) N) : CmpOk c .Is .none .none N k := fun x va vb G ia ib => by
  rw [ia.none', ib.none']; exact is_none (.mkT G .bool hk)
theorem CmpOk.isN1 {i : Int} (hk : k (.bool false) N) : CmpOk c .Is (.int i) .none N k := fun x va vb G ia ib => by
  obtain ⟨t, rfl⟩ := ia.int'; rw [ib.none']; exact is_none (.mkT G .bool hk)
theorem SlOk.ss {s : Str} {i j : Int} (h1 : s.length ≤ sizeLine) (hk : k (.str (Txt.slice s (some i) (some j))) N) : SlOk c (.str s) (.int i) (.int j) N k := fun x va vl vh G ia il ih => by
  obtain ⟨_, rfl⟩ := ia.str'; obtain ⟨_, rfl⟩ := il.int'; obtain ⟨_, rfl⟩ := ih.int'
  exact slS_ss h1 fun h' t' tk' kp => .mkS G kp .str hk
theorem SlOk.sn {s : Str} {i : Int} (h1 : s.length ≤ sizeLine) (hk : k (.str (Txt.slice s (some i) none)) N) : SlOk c (.str s) (.int i) .none N k := fun x va vl vh G ia il ih => by
  obtain ⟨_, rfl⟩ := ia.str'; obtain ⟨_, rfl⟩ := il.int'; rw [ih.none']
  exact slS_sn h1 fun h' t' tk' kp => .mkS G kp .str hk
end
end

noncomputable section
theorem cond_split {b : Bool} {p q : Prop} (h : b = true → p) (k : b = false → q) : cond b p q := by cases b; exact k rfl; exact h rfl
theorem cond_t {b : Bool} {p q : Prop} (h : b = true) (k : p) : cond b p q := by rw [h]; exact k
theorem cond_f {b : Bool} {p q : Prop} (h : b = false) (k : q) : cond b p q := by rw [h]; exact k
theorem forE_inv {turn : Nat × List Nat → Loc → List OD → Lk2 → Prop} {n : Nat} {K : Lk2} (I : List (Nat × List Nat) → Loc → List OD → Prop) (sca : ∀ us l N, I us l N → ScaL l ∧ ScaN N ∧ N.length = n)
    (step : ∀ p us l N, I (p :: us) l N → ∀ q : Lk2, (∀ l N, I us l N → q l N) → turn p l N q) (fin : ∀ l N, I [] l N → K l N) : ∀ (us : List (Nat × List Nat)) (l : Loc) (N : List OD), I us l N → forE turn n us l N K
  | [], l, N, h => ⟨sca _ _ _ h, fin _ _ h⟩
  | p :: us, l, N, h => ⟨sca _ _ _ h, step p us l N h _ fun l N h => forE_inv I sca step fin us l N h⟩
theorem forG_inv {turn : D → Loc → List OD → Lk2 → Prop} {K : Lk2} (I : List D → Loc → List OD → Prop)
    (step : ∀ d ds l N, I (d :: ds) l N → ∀ q : Lk2, (∀ l N, I ds l N → q l N) → turn d l N q) (fin : ∀ l N, I [] l N → K l N) : ∀ (ds : List D) (l : Loc) (N : List OD), I ds l N → forG turn ds l N K
  | [], _, _, h => fin _ _ h
  | d :: ds, l, N, h => step d ds l N h _ fun l N h => forG_inv I step fin ds l N h
@[reducible] noncomputable def P5 : Pm := ⟨scopeOf (stAt 5), [Str.ofString "addr", Str.ofString "start", Str.ofString "open_pos", Str.ofString "result", Str.ofString "pos", Str.ofString "ch"], [Str.ofString "_iter_escaped_chars", Str.ofString "len"]⟩
theorem ok5 : P5.Ok := .of (by kernel_rfl) (by decide +kernel) (by decide +kernel) (by decide +kernel)
theorem pl5 : Plain (stAt 5) := ⟨by kernel_rfl, by kernel_rfl, by decide +kernel⟩
noncomputable def cut (x : List Nat) (a b : Nat) : List Nat := (x.drop a).take (b - a)
noncomputable def stripGo (x : List Nat) : List (Nat × List Nat) → Nat → Option Nat → List (List Nat) → Nat × List (List Nat)
  | [], st, _, res => (st, res)
  | (p, u) :: r, st, op, res =>
    if u = [34] then match op with
      | none => stripGo x r st (some p) res
      | some q => stripGo x r (p + 1) none (if st = q then res else res ++ [cut x st q])
    else stripGo x r st op res
noncomputable def strip (x : List Nat) : List Nat :=
  if 34 ∈ x then let z := stripGo x (units 0 false x) 0 none []; (if z.1 < x.length then z.2 ++ [x.drop z.1] else z.2).flatten else x
noncomputable def opD : Option Nat → D
  | none => .none
  | some q => .int q
noncomputable abbrev sD (u : List Nat) : D := .str ⟨u.toArray⟩
theorem units_len : ∀ (l : List Nat) (p : Nat) (e : Bool), (units p e l).length ≤ l.length + 1
  | [], _, e => by cases e <;> simp [units]
  | c :: r, p, true => by rw [units_true, List.length_cons, List.length_cons]; exact Nat.succ_le_succ (units_len r _ _)
  | c :: r, p, false => by
    by_cases hc : c = 92
    · subst hc; rw [units_bs]; exact Nat.le_succ_of_le (units_len r _ _)
    · rw [units_other _ _ hc, List.length_cons, List.length_cons]; exact Nat.succ_le_succ (units_len r _ _)
theorem sum_le (n : List Str) (B : Nat) (h : ∀ y ∈ n, y.length ≤ B) : (n.map (·.length)).sum ≤ n.length * B := by
  induction n with
  | nil => simp
  | cons y r ih =>
    rw [List.map_cons, List.sum_cons, List.length_cons, Nat.succ_mul]
    have := h y (.head _)
    have := ih fun z hz => h z (.tail _ hz)
    (first | lia | omega)
/-- where the loop of _strip_quoted_realnames stands -/
structure SI (x : Str) (N0 : List OD) (us : List (Nat × List Nat)) (l : Loc) (N : List OD) (st : Nat) (op : Option Nat) (res : List (List Nat)) (o1 o2 : Option D) : Prop where
  l : l = [some (.str x), some (.int st), some (opD op), some (.ob N0.length), o1, o2]
  N : N = N0 ++ [.lst (res.map sD)]
  o : (∀ d, o1 = some d → Sca d) ∧ ∀ d, o2 = some d → Sca d
  go : stripGo x.cps.toList us st op res = stripGo x.cps.toList (units 0 false x.cps.toList) 0 none []
  n : res.length + us.length ≤ 901
  y : ∀ y ∈ res, y.length ≤ 900
section
variable {c : Cf} {N : List OD} {k : Kt} {n : Nat}
theorem get_last {N0 : List OD} {d : OD} : (N0 ++ [d])[N0.length]? = some d := by simp
theorem set_last {N0 : List OD} {d e : OD} : (N0 ++ [d]).set N0.length e = N0 ++ [e] := by simp
theorem str_self (x : Str) : (⟨x.cps.toList.toArray⟩ : Str) = x := by cases x; simp
theorem strip_ok (O : c.Ok) (hB : c.B = AllBare) (hn : c.n = n + 1) {x : Str} (hx : x.cps.all (· < 128) = true) (hsz : x.cps.size ≤ 900) (hN : CloN N.length N) (sN : ScaN N) (hk : k (sD (strip x.cps.toList)) N) : CallOk c 42 [.str x] N k := by
  refine CallOk.cut ?_
  have cutk : ∀ {e : D}, e = sD (strip x.cps.toList) → ∀ N' : List OD, N'.take N.length = N → Clo N.length e ∧ CloN N.length (N'.take N.length) ∧ k e (N'.take N.length) := fun h N' e => by rw [h, e]; exact ⟨trivial, hN, hk⟩
  refine' enterX (P := P5) (m := 1) hn O.hK.fStrip rfl ok5 pl5 rfl (by decide) ?b (by conv => lhs; whnf) ?s ?h
  case b => intro vs hv; intros; obtain ⟨a, rfl⟩ := List.length_eq_one_iff.mp hv; kernel_rfl
  case s =>
    have O := O.wN (n := n)
    have hB : (c.wN n).B = AllBare := hB
    repeat (any_goals (first | exact Snd.newl | (with_reducible first | exact SndS.nil | refine' SndS.ret _ | refine' SndS.asg (by ((with_reducible (repeat (first | exact Slot.hd | apply Slot.tl))))) _ (by (with_unfolding_all exact fun _ => rfl)) _ | refine' SndS.aug (by ((with_reducible (repeat (first | exact Slot.hd | apply Slot.tl))))) _ _ | refine' SndS.iff _ _ _ _ | refine' SndS.exp _ (by (with_unfolding_all exact fun _ => rfl)) _ | (refine' SndS.forE (by assumption) (by assumption) (by ((with_reducible (repeat (first | exact Slot.hd | apply Slot.tl))))) (by ((with_reducible (repeat (first | exact Slot.hd | apply Slot.tl))))) (by ((with_reducible (repeat (first | exact Slot.hd | apply Slot.tl))))) _ (by (with_unfolding_all exact fun _ => rfl)) (by (with_unfolding_all exact fun _ => rfl)) _ _) | refine' SndS.allB (fun _ _ => _) (by assumption) | refine' SndC.allB (fun _ _ => _) (by assumption) | refine' Snd.allB (fun _ _ => _) (by assumption) | refine' SndS.for1 (by ((with_reducible (repeat (first | exact Slot.hd | apply Slot.tl))))) _ (by (with_unfolding_all exact fun _ _ => rfl)) _ _ | refine' SndS.wh _ _ _ | refine' SndC.cmp _ _ (by with_unfolding_all rfl) | refine' SndC.nt _ | refine' SndC.or _ _ | refine' SndC.val _ (by (with_unfolding_all exact fun _ _ => rfl)) | exact Snd.cint | exact Snd.cstr | exact Snd.cnone | exact Snd.cbool | exact Snd.cflt | (apply Snd.loc; (focus (((with_reducible (repeat (first | exact Slot.hd | apply Slot.tl)))); done))) | (apply Snd.glo; (focus assumption); (focus (((with_reducible (repeat (first | exact Slot.hd | apply Slot.tl)))); done)); (focus ((with_reducible (repeat (first | exact At.hd | apply At.tl))); done))) | (apply Snd.blt; (focus assumption); (focus (((with_reducible (repeat (first | exact Slot.hd | apply Slot.tl)))); done)); (focus ((with_reducible (repeat (first | exact At.hd | apply At.tl))); done)); (focus ((with_reducible (repeat (first | exact At.hd | apply At.tl))); done))) | refine' Snd.bin _ _ | refine' Snd.cmp _ _ (by with_unfolding_all rfl) | refine' Snd.see _ _ _ | refine' Snd.sen _ _ | refine' Snd.sne _ _ | refine' Snd.idx _ _ (by (with_unfolding_all exact fun _ _ => rfl)) | refine' Snd.att _ (by (with_unfolding_all exact fun _ => rfl)) | refine' Snd.ite _ _ _ | refine' Snd.and _ _ | refine' Snd.and1 _ | refine' Snd.meth (n := Str.ofString "get_token") (f := .ref 77) _ _ _ (.inr (.inr (Cf.Ok.hK (by assumption)).fGet.keep)) (by intro _; exact ⟨_, by with_unfolding_all rfl⟩) | refine' Snd.meth (n := Str.ofString "push_token") (f := .ref 84) _ _ _ (.inr (.inr (Cf.Ok.hK (by assumption)).fPush.keep)) (by intro _; exact ⟨_, by with_unfolding_all rfl⟩) | refine' Snd.meth (n := Str.ofString "append") (f := .builtin "list.append") _ _ _ (.inl ⟨_, rfl⟩) (by intro _; exact ⟨_, by with_unfolding_all rfl⟩) | refine' Snd.meth (n := Str.ofString "count") (f := .builtin "str.count") _ _ _ (.inl ⟨_, rfl⟩) (by intro _; exact ⟨_, by with_unfolding_all rfl⟩) | refine' Snd.meth (n := Str.ofString "split") (f := .builtin "str.split") _ _ _ (.inl ⟨_, rfl⟩) (by intro _; exact ⟨_, by with_unfolding_all rfl⟩) | refine' Snd.meth (n := Str.ofString "join") (f := .builtin "str.join") _ _ _ (.inl ⟨_, rfl⟩) (by intro _; exact ⟨_, by with_unfolding_all rfl⟩) | refine' Snd.meth (n := Str.ofString "get") (f := .builtin "dict.get") _ _ _ (.inl ⟨_, rfl⟩) (by intro _; exact ⟨_, by with_unfolding_all rfl⟩) | (apply Snd.callB; (focus (apply Snd.blt; (focus assumption); (focus (((with_reducible (repeat (first | exact Slot.hd | apply Slot.tl)))); done)); (focus ((with_reducible (repeat (first | exact At.hd | apply At.tl))); done)); (focus ((with_reducible (repeat (first | exact At.hd | apply At.tl))); done)))); rotate_left 2; (focus ((with_unfolding_all exact fun _ => rfl)))) | (apply Snd.callT; (focus (apply Snd.blt; (focus assumption); (focus (((with_reducible (repeat (first | exact Slot.hd | apply Slot.tl)))); done)); (focus ((with_reducible (repeat (first | exact At.hd | apply At.tl))); done)); (focus ((with_reducible (repeat (first | exact At.hd | apply At.tl))); done)))); rotate_left 2; (focus ((with_unfolding_all exact fun _ => rfl)))) | (apply Snd.callF; (focus assumption); (focus (apply Snd.glo; (focus assumption); (focus (((with_reducible (repeat (first | exact Slot.hd | apply Slot.tl)))); done)); (focus ((with_reducible (repeat (first | exact At.hd | apply At.tl))); done)))); (focus ((first | exact (Cf.Ok.hK (by assumption)).fHls | exact (Cf.Ok.hK (by assumption)).fHsv | exact (Cf.Ok.hK (by assumption)).fIter | exact (Cf.Ok.hK (by assumption)).fStrip | exact (Cf.Ok.hK (by assumption)).fCheck | exact (Cf.Ok.hK (by assumption)).fIseof | exact (Cf.Ok.hK (by assumption)).fTree | exact (Cf.Ok.hK (by assumption)).fWords | exact (Cf.Ok.hK (by assumption)).fSpelled | exact (Cf.Ok.hK (by assumption)).fLexer | exact (Cf.Ok.hK (by assumption)).fNumber | exact (Cf.Ok.hK (by assumption)).fPlay | exact (Cf.Ok.hK (by assumption)).fWorth | exact (Cf.Ok.hK (by assumption)).fRoads | exact (Cf.Ok.hK (by assumption)).fInit | exact (Cf.Ok.hK (by assumption)).fRead | exact (Cf.Ok.hK (by assumption)).fGet | exact (Cf.Ok.hK (by assumption)).fPush))); rotate_left 2; (focus ((with_unfolding_all exact fun _ => rfl)))) | refine' Snd.mkl _ | refine' Snd.mkt _ | exact SndA.nil | refine' SndA.cons _ _ (by (with_unfolding_all exact fun _ => rfl)) | exact AOk.nil | refine' AOk.cons _ (by (with_unfolding_all exact fun _ => rfl)))))
  case h =>
    have hocc : (!(!(Builtin.Str.occurrences x (Str.ofString "\"") 0 x.length 1).isEmpty)) = !decide (34 ∈ x.cps.toList) := by
      rw [show Str.ofString "\"" = ⟨#[34]⟩ by decide +kernel, PySem.StrLaws.found_one]
    refine CmpOk.notInS (TruOk.bool (cond_split (fun h => ?_) fun h => ?_))
    · rw [hocc] at h
      exact cutk (by unfold strip; rw [if_neg (by simpa using h)]) _ List.take_length
    · rw [hocc] at h
      have hm : 34 ∈ x.cps.toList := by simpa using h
      refine Exists.intro x ⟨rfl, hx, ?_⟩
      have len0 : (N ++ [OD.lst []]).length = N.length + 1 := by simp
      have ul : (units 0 false x.cps.toList).length ≤ x.cps.size + 1 := by have := units_len x.cps.toList 0 false; rwa [Array.length_toList] at this
      refine forE_inv (fun us l N' => ∃ st op res o1 o2, SI x N us l N' st op res o1 o2) ?_ ?_ ?_ (units 0 false x.cps.toList) _ _ ⟨0, none, [], none, none, rfl, rfl, ⟨fun _ e => (nomatch e), fun _ e => (nomatch e)⟩, rfl, by simp only [List.length_nil]; (first | lia | omega), fun _ m => nomatch m⟩
      · rintro us l N' ⟨st, op, res, o1, o2, S⟩
        obtain ⟨rfl, rfl, ⟨h1, h2⟩, _⟩ := S
        refine ⟨fun d m => ?_, fun od m => ?_, by simp⟩
        · simp only [List.mem_cons, Option.some.injEq, List.not_mem_nil, or_false] at m
          rcases m with rfl | rfl | rfl | rfl | m | m
          · trivial
          · trivial
          · cases op <;> trivial
          · trivial
          · exact h1 d m.symm
          · exact h2 d m.symm
        · rcases List.mem_append.mp m with m | m
          · exact sN od m
          · obtain rfl := List.mem_singleton.mp m
            exact fun d m => by obtain ⟨_, _, rfl⟩ := List.mem_map.mp m; trivial
      · rintro ⟨p, u⟩ us l N' ⟨st, op, res, o1, o2, S⟩ q hq B
        obtain ⟨rfl, rfl, _, hgo, hl, hy⟩ := S
        have oo : (∀ d, some (D.int (p : Nat)) = some d → Sca d) ∧ ∀ d, some (sD u) = some d → Sca d := ⟨fun d e => by cases e; trivial, fun d e => by cases e; trivial⟩
        rw [List.length_cons] at hl
        refine CmpOk.eqS (TruOk.bool (cond_split (fun h => ?_) fun h => ?_))
        · have hu : u = [34] := by
            have : (⟨u.toArray⟩ : Str) = Str.ofString "\"" := by simpa using h
            rw [show Str.ofString "\"" = ⟨#[34]⟩ by decide +kernel] at this
            simpa using this
          subst hu
          cases op with
          | none =>
            refine CmpOk.isN0 (TruOk.bool ?_)
            exact hq _ _ ⟨st, some p, res, _, _, rfl, rfl, oo, by rw [← hgo]; rfl, by (first | lia | omega), hy⟩
          | some q' =>
            refine CmpOk.isN1 (TruOk.bool (CmpOk.neI (TruOk.bool (cond_split (fun h => ?_) fun h => ?_))))
            · have hst : st ≠ q' := fun e => by subst e; simp at h
              refine ⟨GetOk.append get_last, SlOk.ss (Nat.le_trans hsz (by decide)) (FnOk.append get_last (by rw [List.length_map]; exact Nat.le_trans (by (first | lia | omega) : res.length ≤ 1000) (by decide)) (BinOk.addI ?_))⟩
              refine hq _ _ ⟨p + 1, none, res ++ [cut x.cps.toList st q'], _, _, rfl, ?_, oo, by rw [← hgo]; simp [stripGo, hst], by rw [List.length_append]; simp only [List.length_cons, List.length_nil]; (first | lia | omega), fun y hm => ?_⟩
              · rw [set_last, List.map_append, slice_ss]; rfl
              · rcases List.mem_append.mp hm with hm | hm
                · exact hy y hm
                · obtain rfl := List.mem_singleton.mp hm
                  refine Nat.le_trans (List.length_take_le' _ _) ?_
                  rw [List.length_drop, Array.length_toList]; (first | lia | omega)
            · have hst : st = q' := Int.ofNat.inj (show (st : Int) = q' by simpa using h)
              refine BinOk.addI (hq _ _ ⟨p + 1, none, res, _, _, rfl, rfl, oo, by rw [← hgo]; simp [stripGo, hst], by (first | lia | omega), hy⟩)
        · have hu : u ≠ [34] := fun e => (show (⟨u.toArray⟩ : Str) ≠ Str.ofString "\"" by simpa using h) (by rw [e]; decide +kernel)
          exact hq _ _ ⟨st, op, res, _, _, rfl, rfl, oo, by rw [← hgo]; simp [stripGo, hu], by (first | lia | omega), hy⟩
      · rintro l N' ⟨st, op, res, o1, o2, S⟩
        obtain ⟨rfl, rfl, _, hgo, hl, hy⟩ := S
        have fin : ∀ res' : List (List Nat), res'.length ≤ 902 → (∀ y ∈ res', y.length ≤ 900) → strip x.cps.toList = res'.flatten → ∀ N', N' = N ++ [.lst (res'.map sD)] →
            FnOk (c.wN n) (.builtin "str.join") [.str (Str.ofString ""), .ob N.length] N' fun d N' => Clo N.length d ∧ CloN N.length (N'.take N.length) ∧ k d (N'.take N.length) := fun res' hl hy he N' hN' => by
          subst hN'
          refine FnOk.join (ys := res'.map fun u => (⟨u.toArray⟩ : Str)) (.inr ⟨_, rfl, by rw [get_last, List.map_map]; rfl⟩) (by decide +kernel) ?_ (cutk ?_ _ (List.take_left' rfl))
          · have e := sum_le (res'.map fun u => (⟨u.toArray⟩ : Str)) 900 (fun y hm => by
              obtain ⟨u, hu, rfl⟩ := List.mem_map.mp hm
              exact hy u hu)
            rw [List.length_map] at e ⊢
            (first | lia | omega)
          · rw [he]; exact congrArg D.str (glued_empty res')
        refine FnOk.lenS (Nat.le_trans hsz (by decide)) (CmpOk.ltI (TruOk.bool (cond_split (fun h => ?_) fun h => ?_)))
        · have hlt : st < x.cps.size := show st < x.length by simpa using h
          refine ⟨GetOk.append get_last, SlOk.sn (Nat.le_trans hsz (by decide)) (FnOk.append get_last (by rw [List.length_map]; exact Nat.le_trans (by simp at hl; (first | lia | omega) : res.length ≤ 1000) (by decide)) ⟨GetOk.join, ?_⟩)⟩
          refine fin (res ++ [x.cps.toList.drop st]) (by rw [List.length_append]; simp only [List.length_cons, List.length_nil] at hl ⊢; (first | lia | omega)) (fun y hm => ?_) ?_ _ (by rw [set_last, List.map_append, slice_sn]; rfl)
          · rcases List.mem_append.mp hm with hm | hm
            · exact hy y hm
            · obtain rfl := List.mem_singleton.mp hm
              rw [List.length_drop, Array.length_toList]; (first | lia | omega)
          · unfold strip
            rw [if_pos hm, ← hgo]
            show List.flatten (if st < x.cps.toList.length then _ else _) = _
            rw [if_pos (by simpa using hlt)]; rfl
        · have hlt : ¬ st < x.cps.size := show ¬ st < x.length by simpa using h
          refine ⟨GetOk.join, fin res (by simp at hl; (first | lia | omega)) hy ?_ _ rfl⟩
          unfold strip
          rw [if_pos hm, ← hgo]
          show List.flatten (if st < x.cps.toList.length then _ else _) = _
          rw [if_neg (by simpa using hlt)]; rfl
end
end

noncomputable section
@[reducible] noncomputable def P6 : Pm := ⟨scopeOf (stAt 6), [Str.ofString "addr", Str.ofString "opens", Str.ofString "pos", Str.ofString "ch"], [Str.ofString "_iter_escaped_chars", Str.ofString "_strip_quoted_realnames"]⟩
theorem ok6 : P6.Ok := .of (by kernel_rfl) (by decide +kernel) (by decide +kernel) (by decide +kernel)
theorem pl6 : Plain (stAt 6) := ⟨by kernel_rfl, by kernel_rfl, by decide +kernel⟩
noncomputable def chkGo : List (Nat × List Nat) → Int → Bool
  | [], n => n == 0
  | (_, u) :: r, n => if u = [40] then chkGo r (n + 1) else if u = [41] then (if n - 1 < 0 then false else chkGo r (n - 1)) else chkGo r n
noncomputable def chk (x : List Nat) : Bool := chkGo (units 0 false (strip x)) 0
theorem str_eq1 {u : List Nat} {a : Nat} {s : Str} (hs : s = ⟨#[a]⟩) : ((⟨u.toArray⟩ : Str) == s) = decide (u = [a]) := by
  subst hs
  by_cases h : u = [a]
  · subst h; simp
  · have : (⟨u.toArray⟩ : Str) ≠ ⟨#[a]⟩ := fun e => h (by simpa using e)
    simp [this, h]
section
variable {c : Cf} {N : List OD} {k : Kt} {n : Nat}
theorem check_ok (O : c.Ok) (hB : c.B = AllBare) (hn : c.n = n + 1 + 1) {x : List Nat} (hx : x.all (· < 128) = true) (hx2 : (strip x).all (· < 128) = true) (hsz : x.length ≤ 900) (hN : CloN N.length N) (sN : ScaN N) (hk : k (.bool (chk x)) N) : CallOk c 49 [sD x] N k := by
  refine' enterX (P := P6) (m := 1) hn O.hK.fCheck rfl ok6 pl6 rfl (by decide) ?b (by conv => lhs; whnf) ?s ?h
  case b => intro vs hv; intros; obtain ⟨a, rfl⟩ := List.length_eq_one_iff.mp hv; kernel_rfl
  case s =>
    have O := O.wN (n := n + 1)
    have hB : (c.wN (n + 1)).B = AllBare := hB
    repeat (any_goals ((with_reducible first | exact SndS.nil | refine' SndS.ret _ | refine' SndS.asg (by ((with_reducible (repeat (first | exact Slot.hd | apply Slot.tl))))) _ (by (with_unfolding_all exact fun _ => rfl)) _ | refine' SndS.aug (by ((with_reducible (repeat (first | exact Slot.hd | apply Slot.tl))))) _ _ | refine' SndS.iff _ _ _ _ | refine' SndS.exp _ (by (with_unfolding_all exact fun _ => rfl)) _ | (refine' SndS.forE (by assumption) (by assumption) (by ((with_reducible (repeat (first | exact Slot.hd | apply Slot.tl))))) (by ((with_reducible (repeat (first | exact Slot.hd | apply Slot.tl))))) (by ((with_reducible (repeat (first | exact Slot.hd | apply Slot.tl))))) _ (by (with_unfolding_all exact fun _ => rfl)) (by (with_unfolding_all exact fun _ => rfl)) _ _) | refine' SndS.allB (fun _ _ => _) (by assumption) | refine' SndC.allB (fun _ _ => _) (by assumption) | refine' Snd.allB (fun _ _ => _) (by assumption) | refine' SndS.for1 (by ((with_reducible (repeat (first | exact Slot.hd | apply Slot.tl))))) _ (by (with_unfolding_all exact fun _ _ => rfl)) _ _ | refine' SndS.wh _ _ _ | refine' SndC.cmp _ _ (by with_unfolding_all rfl) | refine' SndC.nt _ | refine' SndC.or _ _ | refine' SndC.val _ (by (with_unfolding_all exact fun _ _ => rfl)) | exact Snd.cint | exact Snd.cstr | exact Snd.cnone | exact Snd.cbool | exact Snd.cflt | (apply Snd.loc; (focus (((with_reducible (repeat (first | exact Slot.hd | apply Slot.tl)))); done))) | (apply Snd.glo; (focus assumption); (focus (((with_reducible (repeat (first | exact Slot.hd | apply Slot.tl)))); done)); (focus ((with_reducible (repeat (first | exact At.hd | apply At.tl))); done))) | (apply Snd.blt; (focus assumption); (focus (((with_reducible (repeat (first | exact Slot.hd | apply Slot.tl)))); done)); (focus ((with_reducible (repeat (first | exact At.hd | apply At.tl))); done)); (focus ((with_reducible (repeat (first | exact At.hd | apply At.tl))); done))) | refine' Snd.bin _ _ | refine' Snd.cmp _ _ (by with_unfolding_all rfl) | refine' Snd.see _ _ _ | refine' Snd.sen _ _ | refine' Snd.sne _ _ | refine' Snd.idx _ _ (by (with_unfolding_all exact fun _ _ => rfl)) | refine' Snd.att _ (by (with_unfolding_all exact fun _ => rfl)) | refine' Snd.ite _ _ _ | refine' Snd.and _ _ | refine' Snd.and1 _ | refine' Snd.meth (n := Str.ofString "get_token") (f := .ref 77) _ _ _ (.inr (.inr (Cf.Ok.hK (by assumption)).fGet.keep)) (by intro _; exact ⟨_, by with_unfolding_all rfl⟩) | refine' Snd.meth (n := Str.ofString "push_token") (f := .ref 84) _ _ _ (.inr (.inr (Cf.Ok.hK (by assumption)).fPush.keep)) (by intro _; exact ⟨_, by with_unfolding_all rfl⟩) | refine' Snd.meth (n := Str.ofString "append") (f := .builtin "list.append") _ _ _ (.inl ⟨_, rfl⟩) (by intro _; exact ⟨_, by with_unfolding_all rfl⟩) | refine' Snd.meth (n := Str.ofString "count") (f := .builtin "str.count") _ _ _ (.inl ⟨_, rfl⟩) (by intro _; exact ⟨_, by with_unfolding_all rfl⟩) | refine' Snd.meth (n := Str.ofString "split") (f := .builtin "str.split") _ _ _ (.inl ⟨_, rfl⟩) (by intro _; exact ⟨_, by with_unfolding_all rfl⟩) | refine' Snd.meth (n := Str.ofString "join") (f := .builtin "str.join") _ _ _ (.inl ⟨_, rfl⟩) (by intro _; exact ⟨_, by with_unfolding_all rfl⟩) | refine' Snd.meth (n := Str.ofString "get") (f := .builtin "dict.get") _ _ _ (.inl ⟨_, rfl⟩) (by intro _; exact ⟨_, by with_unfolding_all rfl⟩) | (apply Snd.callB; (focus (apply Snd.blt; (focus assumption); (focus (((with_reducible (repeat (first | exact Slot.hd | apply Slot.tl)))); done)); (focus ((with_reducible (repeat (first | exact At.hd | apply At.tl))); done)); (focus ((with_reducible (repeat (first | exact At.hd | apply At.tl))); done)))); rotate_left 2; (focus ((with_unfolding_all exact fun _ => rfl)))) | (apply Snd.callT; (focus (apply Snd.blt; (focus assumption); (focus (((with_reducible (repeat (first | exact Slot.hd | apply Slot.tl)))); done)); (focus ((with_reducible (repeat (first | exact At.hd | apply At.tl))); done)); (focus ((with_reducible (repeat (first | exact At.hd | apply At.tl))); done)))); rotate_left 2; (focus ((with_unfolding_all exact fun _ => rfl)))) | (apply Snd.callF; (focus assumption); (focus (apply Snd.glo; (focus assumption); (focus (((with_reducible (repeat (first | exact Slot.hd | apply Slot.tl)))); done)); (focus ((with_reducible (repeat (first | exact At.hd | apply At.tl))); done)))); (focus ((first | exact (Cf.Ok.hK (by assumption)).fHls | exact (Cf.Ok.hK (by assumption)).fHsv | exact (Cf.Ok.hK (by assumption)).fIter | exact (Cf.Ok.hK (by assumption)).fStrip | exact (Cf.Ok.hK (by assumption)).fCheck | exact (Cf.Ok.hK (by assumption)).fIseof | exact (Cf.Ok.hK (by assumption)).fTree | exact (Cf.Ok.hK (by assumption)).fWords | exact (Cf.Ok.hK (by assumption)).fSpelled | exact (Cf.Ok.hK (by assumption)).fLexer | exact (Cf.Ok.hK (by assumption)).fNumber | exact (Cf.Ok.hK (by assumption)).fPlay | exact (Cf.Ok.hK (by assumption)).fWorth | exact (Cf.Ok.hK (by assumption)).fRoads | exact (Cf.Ok.hK (by assumption)).fInit | exact (Cf.Ok.hK (by assumption)).fRead | exact (Cf.Ok.hK (by assumption)).fGet | exact (Cf.Ok.hK (by assumption)).fPush))); rotate_left 2; (focus ((with_unfolding_all exact fun _ => rfl)))) | refine' Snd.mkl _ | refine' Snd.mkt _ | exact SndA.nil | refine' SndA.cons _ _ (by (with_unfolding_all exact fun _ => rfl)) | exact AOk.nil | refine' AOk.cons _ (by (with_unfolding_all exact fun _ => rfl)))))
  case h =>
    refine FnOk.ofCall (strip_ok (c := c.wN (n + 1)) (n := n) (x := ⟨x.toArray⟩) O.wN hB rfl (by simpa using hx) (by simpa using hsz) hN sN ?_)
    refine Exists.intro _ ⟨rfl, by simpa using hx2, ?_⟩
    refine forE_inv (fun us l N' => ∃ n o1 o2, l = [some (sD (strip x)), some (.int n), o1, o2] ∧ N' = N ∧ ((∀ d, o1 = some d → Sca d) ∧ ∀ d, o2 = some d → Sca d) ∧ chkGo us n = chk x) ?_ ?_ ?_ _ _ _ ⟨0, none, none, rfl, rfl, ⟨fun _ e => (nomatch e), fun _ e => (nomatch e)⟩, rfl⟩
    · rintro us l N' ⟨n, o1, o2, rfl, rfl, ⟨h1, h2⟩, _⟩
      refine ⟨fun d m => ?_, sN, rfl⟩
      simp only [List.mem_cons, Option.some.injEq, List.not_mem_nil, or_false] at m
      rcases m with rfl | rfl | m | m
      · trivial
      · trivial
      · exact h1 d m.symm
      · exact h2 d m.symm
    · rintro ⟨p, u⟩ us l N' ⟨n, o1, o2, rfl, rfl, _, hgo⟩ q hq B
      have oo : (∀ d, some (D.int (p : Nat)) = some d → Sca d) ∧ ∀ d, some (sD u) = some d → Sca d := ⟨fun d e => by cases e; trivial, fun d e => by cases e; trivial⟩
      refine CmpOk.eqS (TruOk.bool ?_)
      rw [str_eq1 (show Str.ofString "(" = ⟨#[40]⟩ by decide +kernel)]
      refine cond_split (fun h => ?_) fun h => ?_
      · refine InOk.addI (hq _ _ ⟨n + 1, _, _, rfl, rfl, oo, ?_⟩)
        rw [← hgo]; simp only [chkGo, if_pos (of_decide_eq_true h)]
      · refine CmpOk.eqS (TruOk.bool ?_)
        rw [str_eq1 (show Str.ofString ")" = ⟨#[41]⟩ by decide +kernel)]
        refine cond_split (fun h2 => ?_) fun h2 => ?_
        · refine InOk.subI (CmpOk.ltI (TruOk.bool (cond_split (fun h3 => ?_) fun h3 => ?_)))
          · have : chk x = false := by rw [← hgo]; simp only [chkGo, if_neg (of_decide_eq_false h), if_pos (of_decide_eq_true h2), if_pos (of_decide_eq_true h3)]
            rw [this] at hk; exact hk
          · refine hq _ _ ⟨n - 1, _, _, rfl, rfl, oo, ?_⟩
            rw [← hgo]; simp only [chkGo, if_neg (of_decide_eq_false h), if_pos (of_decide_eq_true h2), if_neg (of_decide_eq_false h3)]
        · refine hq _ _ ⟨n, _, _, rfl, rfl, oo, ?_⟩
          rw [← hgo]; simp only [chkGo, if_neg (of_decide_eq_false h), if_neg (of_decide_eq_false h2)]
    · rintro l N' ⟨n, o1, o2, rfl, rfl, _, hgo⟩
      refine CmpOk.eqI ?_
      rw [show (n == 0) = chk x from hgo]; exact hk
@[reducible] noncomputable def P66 : Pm := ⟨scopeOf (stAt 66), [Str.ofString "word", Str.ofString "units"], [Str.ofString "_iter_escaped_chars", Str.ofString "_strip_quoted_realnames", Str.ofString "EXACT_TOKEN_TYPES"]⟩
end
end

noncomputable section
section
variable {c : Cf} {N : List OD} {k : Kt} {n : Nat}
theorem sw_of {elt : Expr} {gs : List Comprehension} {scope : Scope} {pos px : Pos} {t : Str} {line : Nat} {P : Pm} {env : Env} (e : env.scope = P.cs) (ok : P.Ok) (ht : t ∈ P.vs) (hp : (px.line == pos.line) = true) (h : (scope.names.any fun (n, k) => n == t && (k == .local || k == .cell)) = false) :
    swapsWith (.ListComp elt gs scope pos) (some (.Name t px)) line env = pure true := by
  have a : (env.blockKind == .function) = true := by
    unfold Env.blockKind
    rw [e, ok.k]; rfl
  have b : (env.kindOf t == some .local) = true := by
    show (env.scope.names.lookup t == some .local) = true
    rw [e, (ok.v t ht).1]; rfl
  show pure (env.blockKind == .function && env.kindOf t == some .local && px.line == pos.line && !(scope.names.any fun (n, k) => n == t && (k == .local || k == .cell))) = _
  rw [a, b, hp, h]; rfl
theorem ok66 : P66.Ok := .of (by kernel_rfl) (by decide +kernel) (by decide +kernel) (by decide +kernel)
theorem pl66 : Plain (stAt 66) := ⟨by kernel_rfl, by kernel_rfl, by decide +kernel⟩
/-- the signs that stand alone -/
noncomputable def lone (us : List (Nat × List Nat)) : List Nat := (us.filter fun p => p.2.length == 1).flatMap (·.2)
noncomputable def numOf (x : List Nat) : Int := kdpLook tokTab ⟨(lone (units 0 false (strip x))).toArray⟩ 0
theorem units_small : ∀ (l : List Nat) (p : Nat) (e : Bool), ∀ q ∈ units p e l, q.2.length ≤ 2
  | [], _, e => by cases e <;> simp [units]
  | c :: r, p, true => by rw [units_true]; exact List.forall_mem_cons.mpr ⟨by simp, units_small r _ _⟩
  | c :: r, p, false => by
    by_cases hc : c = 92
    · subst hc; rw [units_bs]; exact units_small r _ _
    · rw [units_other _ _ hc]; exact List.forall_mem_cons.mpr ⟨by simp, units_small r _ _⟩
theorem escG_lone {tc : CdT} {te : EvT} {k : Kt} (ht : ∀ (p : Nat × List Nat) B (q : Bool → List OD → Prop), p.2.length ≤ 2 → q (p.2.length == 1) N → tc (c.wB B) [some (.int (p.1 : Nat)), some (sD p.2)] N q)
    (he : ∀ (p : Nat × List Nat) B (q : Kt), q (sD p.2) N → te (c.wB B) [some (.int (p.1 : Nat)), some (sD p.2)] N q) : ∀ (us : List (Nat × List Nat)) (acc : List (List Nat)), (∀ p ∈ us, p.2.length ≤ 2) → acc.length + us.length ≤ 1000000 → k (.lst ((acc ++ (us.filter fun p => p.2.length == 1).map (·.2)).map sD)) N → escG c tc te us (acc.map sD) N k
  | [], acc, _, _, h => ⟨fun d m => by obtain ⟨_, _, rfl⟩ := List.mem_map.mp m; trivial, by simpa using h⟩
  | p :: us, acc, hu, hl, h => by
    rw [List.length_cons] at hl
    refine ⟨by rw [List.length_map]; (first | lia | omega), fun d m => by obtain ⟨_, _, rfl⟩ := List.mem_map.mp m; trivial, fun B => ht p B _ (hu p (.head _)) ⟨rfl, ?_⟩⟩
    cases q : p.2.length == 1
    · refine escG_lone ht he us acc (fun p m => hu p (.tail _ m)) (by (first | lia | omega)) ?_
      rw [List.filter_cons_of_neg (by simpa using q)] at h; exact h
    · refine he p B _ ⟨rfl, trivial, ?_⟩
      have := escG_lone ht he us (acc ++ [p.2]) (fun p m => hu p (.tail _ m)) (by rw [List.length_append]; simp only [List.length_cons, List.length_nil]; (first | lia | omega)) (by
        rw [List.filter_cons_of_pos (by simpa using q)] at h; simpa using h)
      simpa using this
theorem number_ok (O : c.Ok) (T : TokOk c) (hB : c.B = AllBare) (hn : c.n = n + 1 + 1) {x : List Nat} (hx : x.all (· < 128) = true) (hx2 : (strip x).all (· < 128) = true) (hsz : x.length ≤ 900) (hsz2 : (strip x).length ≤ 900) (hN : CloN N.length N) (sN : ScaN N) (hk : k (.int (numOf x)) N) : CallOk c 132 [sD x] N k := by
  refine' enterX (P := P66) (m := 1) hn O.hK.fNumber rfl ok66 pl66 rfl (by decide) ?b (by conv => lhs; whnf) ?s ?h
  case b => intro vs hv; intros; obtain ⟨a, rfl⟩ := List.length_eq_one_iff.mp hv; kernel_rfl
  case s =>
    have O := O.wN (n := n + 1)
    have hB : (c.wN (n + 1)).B = AllBare := hB
    refine' SndS.asgC (by ((with_reducible (repeat (first | exact Slot.hd | apply Slot.tl))))) (CmpB.esc (P' := ⟨_, [Str.ofString "place", Str.ofString "unit"], [Str.ofString "len"]⟩) O hB (by ((with_reducible (repeat (first | exact Slot.hd | apply Slot.tl))))) _ (by (with_unfolding_all exact fun _ => rfl)) (by (with_unfolding_all exact fun _ => rfl)) rfl (.of rfl (by decide +kernel) (by decide +kernel) (by decide +kernel)) (.of (by decide +kernel) rfl) _ _) (.of (by decide +kernel) rfl) (by (with_unfolding_all exact fun _ _ => rfl)) (fun env e => sw_of e ok66 (.tail _ (.head _)) rfl (by decide +kernel)) _
    repeat (any_goals ((with_reducible first | exact SndS.nil | refine' SndS.ret _ | refine' SndS.asg (by ((with_reducible (repeat (first | exact Slot.hd | apply Slot.tl))))) _ (by (with_unfolding_all exact fun _ => rfl)) _ | refine' SndS.aug (by ((with_reducible (repeat (first | exact Slot.hd | apply Slot.tl))))) _ _ | refine' SndS.iff _ _ _ _ | refine' SndS.exp _ (by (with_unfolding_all exact fun _ => rfl)) _ | (refine' SndS.forE (by assumption) (by assumption) (by ((with_reducible (repeat (first | exact Slot.hd | apply Slot.tl))))) (by ((with_reducible (repeat (first | exact Slot.hd | apply Slot.tl))))) (by ((with_reducible (repeat (first | exact Slot.hd | apply Slot.tl))))) _ (by (with_unfolding_all exact fun _ => rfl)) (by (with_unfolding_all exact fun _ => rfl)) _ _) | refine' SndS.allB (fun _ _ => _) (by assumption) | refine' SndC.allB (fun _ _ => _) (by assumption) | refine' Snd.allB (fun _ _ => _) (by assumption) | refine' SndS.for1 (by ((with_reducible (repeat (first | exact Slot.hd | apply Slot.tl))))) _ (by (with_unfolding_all exact fun _ _ => rfl)) _ _ | refine' SndS.wh _ _ _ | refine' SndC.cmp _ _ (by with_unfolding_all rfl) | refine' SndC.nt _ | refine' SndC.or _ _ | refine' SndC.val _ (by (with_unfolding_all exact fun _ _ => rfl)) | exact Snd.cint | exact Snd.cstr | exact Snd.cnone | exact Snd.cbool | exact Snd.cflt | (apply Snd.loc; (focus (((with_reducible (repeat (first | exact Slot.hd | apply Slot.tl)))); done))) | (apply Snd.glo; (focus assumption); (focus (((with_reducible (repeat (first | exact Slot.hd | apply Slot.tl)))); done)); (focus ((with_reducible (repeat (first | exact At.hd | apply At.tl))); done))) | (apply Snd.blt; (focus assumption); (focus (((with_reducible (repeat (first | exact Slot.hd | apply Slot.tl)))); done)); (focus ((with_reducible (repeat (first | exact At.hd | apply At.tl))); done)); (focus ((with_reducible (repeat (first | exact At.hd | apply At.tl))); done))) | refine' Snd.bin _ _ | refine' Snd.cmp _ _ (by with_unfolding_all rfl) | refine' Snd.see _ _ _ | refine' Snd.sen _ _ | refine' Snd.sne _ _ | refine' Snd.idx _ _ (by (with_unfolding_all exact fun _ _ => rfl)) | refine' Snd.att _ (by (with_unfolding_all exact fun _ => rfl)) | refine' Snd.ite _ _ _ | refine' Snd.and _ _ | refine' Snd.and1 _ | refine' Snd.meth (n := Str.ofString "get_token") (f := .ref 77) _ _ _ (.inr (.inr (Cf.Ok.hK (by assumption)).fGet.keep)) (by intro _; exact ⟨_, by with_unfolding_all rfl⟩) | refine' Snd.meth (n := Str.ofString "push_token") (f := .ref 84) _ _ _ (.inr (.inr (Cf.Ok.hK (by assumption)).fPush.keep)) (by intro _; exact ⟨_, by with_unfolding_all rfl⟩) | refine' Snd.meth (n := Str.ofString "append") (f := .builtin "list.append") _ _ _ (.inl ⟨_, rfl⟩) (by intro _; exact ⟨_, by with_unfolding_all rfl⟩) | refine' Snd.meth (n := Str.ofString "count") (f := .builtin "str.count") _ _ _ (.inl ⟨_, rfl⟩) (by intro _; exact ⟨_, by with_unfolding_all rfl⟩) | refine' Snd.meth (n := Str.ofString "split") (f := .builtin "str.split") _ _ _ (.inl ⟨_, rfl⟩) (by intro _; exact ⟨_, by with_unfolding_all rfl⟩) | refine' Snd.meth (n := Str.ofString "join") (f := .builtin "str.join") _ _ _ (.inl ⟨_, rfl⟩) (by intro _; exact ⟨_, by with_unfolding_all rfl⟩) | refine' Snd.meth (n := Str.ofString "get") (f := .builtin "dict.get") _ _ _ (.inl ⟨_, rfl⟩) (by intro _; exact ⟨_, by with_unfolding_all rfl⟩) | (apply Snd.callB; (focus (apply Snd.blt; (focus assumption); (focus (((with_reducible (repeat (first | exact Slot.hd | apply Slot.tl)))); done)); (focus ((with_reducible (repeat (first | exact At.hd | apply At.tl))); done)); (focus ((with_reducible (repeat (first | exact At.hd | apply At.tl))); done)))); rotate_left 2; (focus ((with_unfolding_all exact fun _ => rfl)))) | (apply Snd.callT; (focus (apply Snd.blt; (focus assumption); (focus (((with_reducible (repeat (first | exact Slot.hd | apply Slot.tl)))); done)); (focus ((with_reducible (repeat (first | exact At.hd | apply At.tl))); done)); (focus ((with_reducible (repeat (first | exact At.hd | apply At.tl))); done)))); rotate_left 2; (focus ((with_unfolding_all exact fun _ => rfl)))) | (apply Snd.callF; (focus assumption); (focus (apply Snd.glo; (focus assumption); (focus (((with_reducible (repeat (first | exact Slot.hd | apply Slot.tl)))); done)); (focus ((with_reducible (repeat (first | exact At.hd | apply At.tl))); done)))); (focus ((first | exact (Cf.Ok.hK (by assumption)).fHls | exact (Cf.Ok.hK (by assumption)).fHsv | exact (Cf.Ok.hK (by assumption)).fIter | exact (Cf.Ok.hK (by assumption)).fStrip | exact (Cf.Ok.hK (by assumption)).fCheck | exact (Cf.Ok.hK (by assumption)).fIseof | exact (Cf.Ok.hK (by assumption)).fTree | exact (Cf.Ok.hK (by assumption)).fWords | exact (Cf.Ok.hK (by assumption)).fSpelled | exact (Cf.Ok.hK (by assumption)).fLexer | exact (Cf.Ok.hK (by assumption)).fNumber | exact (Cf.Ok.hK (by assumption)).fPlay | exact (Cf.Ok.hK (by assumption)).fWorth | exact (Cf.Ok.hK (by assumption)).fRoads | exact (Cf.Ok.hK (by assumption)).fInit | exact (Cf.Ok.hK (by assumption)).fRead | exact (Cf.Ok.hK (by assumption)).fGet | exact (Cf.Ok.hK (by assumption)).fPush))); rotate_left 2; (focus ((with_unfolding_all exact fun _ => rfl)))) | refine' Snd.mkl _ | refine' Snd.mkt _ | exact SndA.nil | refine' SndA.cons _ _ (by (with_unfolding_all exact fun _ => rfl)) | exact AOk.nil | refine' AOk.cons _ (by (with_unfolding_all exact fun _ => rfl)))))
  case h =>
    have ul : (units 0 false (strip x)).length ≤ 901 := Nat.le_trans (units_len _ _ _) (by (first | lia | omega))
    refine FnOk.ofCall (strip_ok (c := c.wN (n + 1)) (n := n) (x := ⟨x.toArray⟩) O.wN hB rfl (by simpa using hx) (by simpa using hsz) hN sN ?_)
    refine Exists.intro _ ⟨rfl, by simpa using hx2, fun d m => ?_, sN, ?_⟩
    · have m : some d ∈ [some (sD x), none] := m
      simp only [List.mem_cons, Option.some.injEq, List.not_mem_nil, or_false, reduceCtorEq] at m
      subst m; trivial
    refine escG_lone (fun p B q hl h => ?_) (fun p B q h => h) _ [] (units_small _ _ _) (by show 0 + (units 0 false (strip x)).length ≤ _; (first | lia | omega)) ?_
    · refine FnOk.lenS (by show p.2.toArray.size ≤ _; rw [List.size_toArray]; exact Nat.le_trans hl (by decide)) (CmpOk.eqI (TruOk.bool ?_))
      rw [show ((Str.length ⟨p.2.toArray⟩ : Nat) : Int) = (p.2.length : Int) from by show ((p.2.toArray.size : Nat) : Int) = _; rw [List.size_toArray]]
      rw [show (((p.2.length : Nat) : Int) == 1) = (p.2.length == 1) by rw [Bool.eq_iff_iff, beq_iff_eq, beq_iff_eq]; (first | lia | omega)]
      exact h
    refine ⟨GetOk.get T, ⟨GetOk.join, FnOk.join (ys := ((units 0 false (strip x)).filter fun p => p.2.length == 1).map fun p => (⟨p.2.toArray⟩ : Str)) (.inl (by rw [List.nil_append, List.map_map, List.map_map]; rfl)) (by decide +kernel) ?_ (FnOk.tget (c := c.wN (n + 1)) T ?_)⟩⟩
    · have e := sum_le (((units 0 false (strip x)).filter fun p => p.2.length == 1).map fun p => (⟨p.2.toArray⟩ : Str)) 1 (fun y hm => by
        obtain ⟨p, hp, rfl⟩ := List.mem_map.mp hm
        have h1 : p.2.length = 1 := by simpa using (List.mem_filter.mp hp).2
        show p.2.toArray.size ≤ 1
        rw [List.size_toArray, h1]; exact Nat.le_refl _)
      have := List.length_filter_le (fun p : Nat × List Nat => p.2.length == 1) (units 0 false (strip x))
      rw [List.length_map] at e ⊢
      (first | lia | omega)
    · have : Txt.join (Str.ofString "") (((units 0 false (strip x)).filter fun p => p.2.length == 1).map fun p => (⟨p.2.toArray⟩ : Str)) = ⟨(lone (units 0 false (strip x))).toArray⟩ := by
        have := glued_empty (((units 0 false (strip x)).filter fun p => p.2.length == 1).map (·.2))
        rw [List.map_map] at this
        unfold lone
        rw [List.flatMap_def]
        exact this
      rw [this]; exact hk
end
end

noncomputable section
inductive Tr where
  | leaf (n : Nat) | neg (a : Tr) | two (g : Bool) (a b : Tr) | three (g : Bool) (a b d : Tr)
noncomputable abbrev opS (g : Bool) : List Nat := if g then [62] else [60]
noncomputable def dT : Tr → D
  | .leaf n => .int n
  | .neg a => .lst [sD [126], dT a]
  | .two g a b => .lst [sD (opS g), dT a, dT b]
  | .three g a b d => .lst [sD (opS g), dT a, dT b, dT d]
noncomputable def dep : Tr → Nat
  | .leaf _ => 0
  | .neg a => dep a + 1
  | .two _ a b => max (dep a) (dep b) + 1
  | .three _ a b d => max (dep a) (max (dep b) (dep d)) + 1
noncomputable def worth : Tr → Int
  | .leaf n => (n % 64 : Nat)
  | .neg a => 64 - worth a
  | .two g a b => if g then max (worth a) (worth b) else min (worth a) (worth b)
  | .three g a b d => if g then max (worth a) (max (worth b) (worth d)) else min (worth a) (min (worth b) (worth d))
section
variable {c : Cf} {N : List OD} {k : Kt} {n : Nat}
theorem compG_one {α : Type} {te : Loc → List OD → Kt → Prop} {f g : α → D} : ∀ (as : List α) (acc : List D), (∀ a ∈ as, ∀ q : Kt, q (g a) N → te [some (f a)] N q) → acc.length + as.length ≤ 1000000 → k (.lst (acc ++ as.map g)) N → compG false (tTrue c) te (as.map f) acc N k
  | [], acc, _, _, hk => by simpa [compG] using hk
  | a :: as, acc, h, hl, hk => by
    rw [List.length_cons] at hl
    exact ⟨by (first | lia | omega), _, .inl ⟨rfl, rfl⟩, h a (.head _) _ (compG_one as (acc ++ [g a]) (fun b m => h b (.tail _ m)) (by rw [List.length_append]; simp only [List.length_cons, List.length_nil]; (first | lia | omega)) (by simpa using hk))⟩
@[reducible] noncomputable def P68 : Pm := ⟨scopeOf (stAt 68), [Str.ofString "thing", Str.ofString "worths"], [Str.ofString "isinstance", Str.ofString "int", Str.ofString "max", Str.ofString "min"]⟩
theorem ok68 : P68.Ok := .of (by kernel_rfl) (by decide +kernel) (by decide +kernel) (by decide +kernel)
theorem pl68 : Plain (stAt 68) := ⟨by kernel_rfl, by kernel_rfl, by decide +kernel⟩
noncomputable def t68 : SxT := sIf (tVal (eCall (.builtin "isinstance") (aCons (eLoc 0) (aCons (eCst (.val (.type "int"))) aNil))))
    (sRet (eBin .Mod (eLoc 0) (eCst (.int 64)))) sNil
    (sAsg 1 (eComp false (eSl (eLoc 0) (eCst (.int 1)) (eCst .none)) tTrue (eCall (.ref 144) (aCons (eLoc 0) aNil)))
      (sIf (tVal (eCmp .Eq (eIdx (eLoc 0) (eCst (.int 0))) (eCst (.str (Str.ofString "~")))))
        (sRet (eBin .Sub (eCst (.int 64)) (eIdx (eLoc 1) (eCst (.int 0))))) sNil
        (sRet (eIte (tVal (eCmp .Eq (eIdx (eLoc 0) (eCst (.int 0))) (eCst (.str (Str.ofString ">")))))
            (eCall (.builtin "max") (aCons (eLoc 1) aNil)) (eCall (.builtin "min") (aCons (eLoc 1) aNil))))))
theorem worth_fn (O : c.Ok) (hn : c.n = n + 1) {d : D} (h : t68 (c.wN n) [some d, none] N (fun _ N => k .none N) (fun _ N => k .none N) k) : CallOk c 144 [d] N k := by
  refine' enterX (P := P68) (m := 1) hn O.hK.fWorth rfl ok68 pl68 rfl (by decide) ?b (by conv => lhs; whnf) ?s ?h
  case b => intro vs hv; intros; obtain ⟨a, rfl⟩ := List.length_eq_one_iff.mp hv; kernel_rfl
  case s =>
    have O := O.wN (n := n)
    refine' SndS.iff _ _ SndS.nil _
    rotate_right
    refine' SndS.asgC (by ((with_reducible (repeat (first | exact Slot.hd | apply Slot.tl))))) (CmpB.one (P' := ⟨_, [Str.ofString "part"], [Str.ofString "_law_worth"]⟩) _ rfl (.of rfl (by decide +kernel) (by decide +kernel) (by decide +kernel)) (.of (by decide +kernel) rfl) _) (.of (by decide +kernel) rfl) (by (with_unfolding_all exact fun _ _ => rfl)) (fun env e => sw_of e ok68 (.tail _ (.head _)) rfl (by decide +kernel)) _
    repeat (any_goals ((with_reducible first | exact SndS.nil | refine' SndS.ret _ | refine' SndS.asg (by ((with_reducible (repeat (first | exact Slot.hd | apply Slot.tl))))) _ (by (with_unfolding_all exact fun _ => rfl)) _ | refine' SndS.aug (by ((with_reducible (repeat (first | exact Slot.hd | apply Slot.tl))))) _ _ | refine' SndS.iff _ _ _ _ | refine' SndS.exp _ (by (with_unfolding_all exact fun _ => rfl)) _ | (refine' SndS.forE (by assumption) (by assumption) (by ((with_reducible (repeat (first | exact Slot.hd | apply Slot.tl))))) (by ((with_reducible (repeat (first | exact Slot.hd | apply Slot.tl))))) (by ((with_reducible (repeat (first | exact Slot.hd | apply Slot.tl))))) _ (by (with_unfolding_all exact fun _ => rfl)) (by (with_unfolding_all exact fun _ => rfl)) _ _) | refine' SndS.allB (fun _ _ => _) (by assumption) | refine' SndC.allB (fun _ _ => _) (by assumption) | refine' Snd.allB (fun _ _ => _) (by assumption) | refine' SndS.for1 (by ((with_reducible (repeat (first | exact Slot.hd | apply Slot.tl))))) _ (by (with_unfolding_all exact fun _ _ => rfl)) _ _ | refine' SndS.wh _ _ _ | refine' SndC.cmp _ _ (by with_unfolding_all rfl) | refine' SndC.nt _ | refine' SndC.or _ _ | refine' SndC.val _ (by (with_unfolding_all exact fun _ _ => rfl)) | exact Snd.cint | exact Snd.cstr | exact Snd.cnone | exact Snd.cbool | exact Snd.cflt | (apply Snd.loc; (focus (((with_reducible (repeat (first | exact Slot.hd | apply Slot.tl)))); done))) | (apply Snd.glo; (focus assumption); (focus (((with_reducible (repeat (first | exact Slot.hd | apply Slot.tl)))); done)); (focus ((with_reducible (repeat (first | exact At.hd | apply At.tl))); done))) | (apply Snd.blt; (focus assumption); (focus (((with_reducible (repeat (first | exact Slot.hd | apply Slot.tl)))); done)); (focus ((with_reducible (repeat (first | exact At.hd | apply At.tl))); done)); (focus ((with_reducible (repeat (first | exact At.hd | apply At.tl))); done))) | refine' Snd.bin _ _ | refine' Snd.cmp _ _ (by with_unfolding_all rfl) | refine' Snd.see _ _ _ | refine' Snd.sen _ _ | refine' Snd.sne _ _ | refine' Snd.idx _ _ (by (with_unfolding_all exact fun _ _ => rfl)) | refine' Snd.att _ (by (with_unfolding_all exact fun _ => rfl)) | refine' Snd.ite _ _ _ | refine' Snd.and _ _ | refine' Snd.and1 _ | refine' Snd.meth (n := Str.ofString "get_token") (f := .ref 77) _ _ _ (.inr (.inr (Cf.Ok.hK (by assumption)).fGet.keep)) (by intro _; exact ⟨_, by with_unfolding_all rfl⟩) | refine' Snd.meth (n := Str.ofString "push_token") (f := .ref 84) _ _ _ (.inr (.inr (Cf.Ok.hK (by assumption)).fPush.keep)) (by intro _; exact ⟨_, by with_unfolding_all rfl⟩) | refine' Snd.meth (n := Str.ofString "append") (f := .builtin "list.append") _ _ _ (.inl ⟨_, rfl⟩) (by intro _; exact ⟨_, by with_unfolding_all rfl⟩) | refine' Snd.meth (n := Str.ofString "count") (f := .builtin "str.count") _ _ _ (.inl ⟨_, rfl⟩) (by intro _; exact ⟨_, by with_unfolding_all rfl⟩) | refine' Snd.meth (n := Str.ofString "split") (f := .builtin "str.split") _ _ _ (.inl ⟨_, rfl⟩) (by intro _; exact ⟨_, by with_unfolding_all rfl⟩) | refine' Snd.meth (n := Str.ofString "join") (f := .builtin "str.join") _ _ _ (.inl ⟨_, rfl⟩) (by intro _; exact ⟨_, by with_unfolding_all rfl⟩) | refine' Snd.meth (n := Str.ofString "get") (f := .builtin "dict.get") _ _ _ (.inl ⟨_, rfl⟩) (by intro _; exact ⟨_, by with_unfolding_all rfl⟩) | (apply Snd.callB; (focus (apply Snd.blt; (focus assumption); (focus (((with_reducible (repeat (first | exact Slot.hd | apply Slot.tl)))); done)); (focus ((with_reducible (repeat (first | exact At.hd | apply At.tl))); done)); (focus ((with_reducible (repeat (first | exact At.hd | apply At.tl))); done)))); rotate_left 2; (focus ((with_unfolding_all exact fun _ => rfl)))) | (apply Snd.callT; (focus (apply Snd.blt; (focus assumption); (focus (((with_reducible (repeat (first | exact Slot.hd | apply Slot.tl)))); done)); (focus ((with_reducible (repeat (first | exact At.hd | apply At.tl))); done)); (focus ((with_reducible (repeat (first | exact At.hd | apply At.tl))); done)))); rotate_left 2; (focus ((with_unfolding_all exact fun _ => rfl)))) | (apply Snd.callF; (focus assumption); (focus (apply Snd.glo; (focus assumption); (focus (((with_reducible (repeat (first | exact Slot.hd | apply Slot.tl)))); done)); (focus ((with_reducible (repeat (first | exact At.hd | apply At.tl))); done)))); (focus ((first | exact (Cf.Ok.hK (by assumption)).fHls | exact (Cf.Ok.hK (by assumption)).fHsv | exact (Cf.Ok.hK (by assumption)).fIter | exact (Cf.Ok.hK (by assumption)).fStrip | exact (Cf.Ok.hK (by assumption)).fCheck | exact (Cf.Ok.hK (by assumption)).fIseof | exact (Cf.Ok.hK (by assumption)).fTree | exact (Cf.Ok.hK (by assumption)).fWords | exact (Cf.Ok.hK (by assumption)).fSpelled | exact (Cf.Ok.hK (by assumption)).fLexer | exact (Cf.Ok.hK (by assumption)).fNumber | exact (Cf.Ok.hK (by assumption)).fPlay | exact (Cf.Ok.hK (by assumption)).fWorth | exact (Cf.Ok.hK (by assumption)).fRoads | exact (Cf.Ok.hK (by assumption)).fInit | exact (Cf.Ok.hK (by assumption)).fRead | exact (Cf.Ok.hK (by assumption)).fGet | exact (Cf.Ok.hK (by assumption)).fPush))); rotate_left 2; (focus ((with_unfolding_all exact fun _ => rfl)))) | refine' Snd.mkl _ | refine' Snd.mkt _ | exact SndA.nil | refine' SndA.cons _ _ (by (with_unfolding_all exact fun _ => rfl)) | exact AOk.nil | refine' AOk.cons _ (by (with_unfolding_all exact fun _ => rfl)))))
  case h => exact h
theorem opS_eq (o : List Nat) (s : Str) (a : Nat) (hs : s = ⟨#[a]⟩) : ((⟨o.toArray⟩ : Str) == s) = decide (o = [a]) := str_eq1 hs
theorem s126 : Str.ofString "~" = ⟨#[126]⟩ := by decide +kernel
theorem s62 : Str.ofString ">" = ⟨#[62]⟩ := by decide +kernel
theorem worth_node {op : List Nat} {ps : List Tr} (O : c.Ok) (hn : c.n = n + 1) (hp : 0 < ps.length) (hl : ps.length ≤ 1000) (ih : ∀ p ∈ ps, ∀ q : Kt, q (.int (worth p)) N → CallOk (c.wN n) 144 [dT p] N q)
    (h1 : op = [126] → k (.int (64 - (ps.map worth).headD 0)) N) (h2 : op = [62] → ∀ M, M ∈ ps.map worth → (∀ a ∈ ps.map worth, a ≤ M) → k (.int M) N) (h3 : op ≠ [126] → op ≠ [62] → ∀ M, M ∈ ps.map worth → (∀ a ∈ ps.map worth, M ≤ a) → k (.int M) N) : CallOk c 144 [.lst (sD op :: ps.map dT)] N k := by
  refine worth_fn O hn ?_
  have ls : (sD op :: ps.map dT).length ≤ sizeLine := by rw [List.length_cons, List.length_map]; exact Nat.le_trans (by (first | lia | omega) : ps.length + 1 ≤ 2000) (by decide)
  have lw : ((ps.map worth).map D.int).length ≤ sizeLine := by rw [List.length_map, List.length_map]; exact Nat.le_trans hl (by decide)
  refine FnOk.isIntL (.inl rfl) (TruOk.bool (SlOk.en (i := 1) (.inl rfl) ls (Exists.intro _ ⟨.inl rfl, ?_⟩)))
  refine compG_one (f := dT) (g := fun p => .int (worth p)) ps [] (fun p m q h => FnOk.ofCall (ih p m q h)) (by rw [List.length_nil]; (first | lia | omega)) ?_
  rw [List.nil_append, show ps.map (fun p => D.int (worth p)) = (ps.map worth).map D.int by rw [List.map_map]; rfl]
  have get0 : ((ps.map worth).map D.int)[0]? = some (.int ((ps.map worth).headD 0)) := by
    cases ps with
    | nil => simp at hp
    | cons p r => rfl
  refine IdxOk.seq (i := 0) (.inl rfl) ls rfl (CmpOk.eqS (TruOk.bool ?_))
  rw [str_eq1 s126]
  refine cond_split (fun h => ?_) fun h => ?_
  · exact IdxOk.seq (i := 0) (.inl rfl) lw get0 (BinOk.subI (h1 (of_decide_eq_true h)))
  · refine IdxOk.seq (i := 0) (.inl rfl) ls rfl (CmpOk.eqS (TruOk.bool ?_))
    rw [str_eq1 s62]
    have lp : 0 < (ps.map worth).length := by rw [List.length_map]; exact hp
    exact cond_split (fun h' => FnOk.max1 (.inl rfl) lp (h2 (of_decide_eq_true h'))) fun h' => FnOk.min1 (.inl rfl) lp (h3 (of_decide_eq_false h) (of_decide_eq_false h'))
theorem worth_ok : ∀ (t : Tr) {c : Cf} {N : List OD} {k : Kt}, c.Ok → dep t < c.n → k (.int (worth t)) N → CallOk c 144 [dT t] N k := by
  intro t
  induction t with
  | leaf m =>
    intro c N k O hn hk
    obtain ⟨n, hn'⟩ : ∃ n, c.n = n + 1 := ⟨c.n - 1, by (first | lia | omega)⟩
    refine worth_fn O hn' (FnOk.isInt (TruOk.bool (BinOk.modI (by decide) ?_)))
    rw [show ((m : Nat) : Int).fmod 64 = ((m % 64 : Nat) : Int) from by rw [Int.fmod_eq_emod_of_nonneg _ (by decide)]; rfl]
    exact hk
  | neg a ia =>
    intro c N k O hn hk
    obtain ⟨n, hn'⟩ : ∃ n, c.n = n + 1 := ⟨c.n - 1, by (first | lia | omega)⟩
    exact worth_node (ps := [a]) O hn' (by simp) (by simp) (List.forall_mem_singleton.mpr fun q h => ia O.wN (show dep a < n by simp only [dep] at hn; (first | lia | omega)) h) (fun _ => hk) (fun e => absurd e (by decide)) fun e => absurd rfl e
  | two g a b ia ib =>
    intro c N k O hn hk
    obtain ⟨n, hn'⟩ : ∃ n, c.n = n + 1 := ⟨c.n - 1, by (first | lia | omega)⟩
    simp only [dep] at hn
    refine worth_node (ps := [a, b]) O hn' (by simp) (by simp) (List.forall_mem_cons.mpr ⟨fun q h => ia O.wN (show dep a < n by (first | lia | omega)) h, List.forall_mem_singleton.mpr fun q h => ib O.wN (show dep b < n by (first | lia | omega)) h⟩) (fun e => ?_) (fun e M m1 m2 => ?_) fun _ e M m1 m2 => ?_
    · cases g <;> exact absurd e (by decide)
    · cases g with
      | false => exact absurd e (by decide)
      | true =>
        have : M = max (worth a) (worth b) := by simp at m1 m2; (first | lia | omega)
        rw [this]; exact hk
    · cases g with
      | true => exact absurd rfl e
      | false =>
        have : M = min (worth a) (worth b) := by simp at m1 m2; (first | lia | omega)
        rw [this]; exact hk
  | three g a b d ia ib id =>
    intro c N k O hn hk
    obtain ⟨n, hn'⟩ : ∃ n, c.n = n + 1 := ⟨c.n - 1, by (first | lia | omega)⟩
    simp only [dep] at hn
    refine worth_node (ps := [a, b, d]) O hn' (by simp) (by simp) (List.forall_mem_cons.mpr ⟨fun q h => ia O.wN (show dep a < n by (first | lia | omega)) h, List.forall_mem_cons.mpr ⟨fun q h => ib O.wN (show dep b < n by (first | lia | omega)) h, List.forall_mem_singleton.mpr fun q h => id O.wN (show dep d < n by (first | lia | omega)) h⟩⟩) (fun e => ?_) (fun e M m1 m2 => ?_) fun _ e M m1 m2 => ?_
    · cases g <;> exact absurd e (by decide)
    · cases g with
      | false => exact absurd e (by decide)
      | true =>
        have : M = max (worth a) (max (worth b) (worth d)) := by simp at m1 m2; (first | lia | omega)
        rw [this]; exact hk
    · cases g with
      | true => exact absurd rfl e
      | false =>
        have : M = min (worth a) (min (worth b) (worth d)) := by simp at m1 m2; (first | lia | omega)
        rw [this]; exact hk
end
end

noncomputable section
noncomputable def signOf (v : Nat) : List Nat := ((tokTab.find? fun p => p.2 == (v : Int)).map (·.1.cps.toList)).getD []
noncomputable def riderOf (i : Nat) : List Nat := [[], [92, 40], [92, 41], [34, 40, 34], [34, 41, 34], [92, 34]].getD i []
noncomputable def leafW (m : Nat) : List Nat := signOf (m % 64) ++ riderOf (m / 64)
structure LeafOk (m : Nat) : Prop where
  a : 9 ≤ m % 64
  b : m % 64 ≤ 54
  d : m % 64 ≠ 31
  e : m / 64 ≤ 5
noncomputable def signTab : List Str := (List.range 46).map fun i => ⟨(signOf (i + 9)).toArray⟩
section
variable {c : Cf} {N : List OD} {k : Kt} {n : Nat}
theorem FnOk.splitT {s t : Str} {tab : List Str} (e : Txt.split s t = tab) (h1 : (t.length == 0) = false) (h2 : s.length + 2 ≤ sizeLine) (hk : k (.lst (tab.map .str)) N) : FnOk c (.builtin "str.split") [.str s, .str t] N k := FnOk.split h1 h2 (by rw [e]; exact hk)
theorem rid_at {i : Nat} (h : i ≤ 5) {ds : List D} (e : ds = ((List.range 6).map fun i => (⟨(riderOf i).toArray⟩ : Str)).map D.str) : ds[i]? = some (sD (riderOf i)) := by
  subst e
  rw [List.getElem?_map, List.getElem?_map, List.getElem?_range (by (first | lia | omega))]; rfl
theorem sign_at {i : Nat} (h : i ≤ 45) : (signTab.map D.str)[i]? = some (sD (signOf (i + 9))) := by
  unfold signTab
  rw [List.getElem?_map, List.getElem?_map, List.getElem?_range (by (first | lia | omega))]; rfl
theorem sign_len {v : Nat} : (signOf v).length ≤ 3 := by
  unfold signOf
  cases e : tokTab.find? fun p => p.2 == (v : Int) with
  | none => exact Nat.zero_le _
  | some p =>
    have h : (tokTab.all fun p => decide (p.1.cps.toList.length ≤ 3)) = true := by decide +kernel
    exact of_decide_eq_true (List.all_eq_true.mp h p (List.mem_of_find?_eq_some e))
theorem rider_len {i : Nat} : (riderOf i).length ≤ 3 := by
  unfold riderOf
  rcases Nat.lt_or_ge i 6 with h | h
  · have t : ((List.range 6).all fun i => decide (([[], [92, 40], [92, 41], [34, 40, 34], [34, 41, 34], [92, 34]].getD i ([] : List Nat)).length ≤ 3)) = true := by decide +kernel
    exact of_decide_eq_true (List.all_eq_true.mp t i (List.mem_range.mpr h))
  · rw [List.getD_eq_getElem?_getD, List.getElem?_eq_none (by simpa using h)]; exact Nat.zero_le _
theorem sD_add {a b : List Nat} : (⟨a.toArray⟩ : Str) ++ ⟨b.toArray⟩ = ⟨(a ++ b).toArray⟩ := congrArg Str.mk (by simp)
@[reducible] noncomputable def P63 : Pm := ⟨scopeOf (stAt 63), [Str.ofString "thing", Str.ofString "signs", Str.ofString "riders", Str.ofString "words", Str.ofString "part"], [Str.ofString "isinstance", Str.ofString "int", Str.ofString "_law_words"]⟩
theorem ok63 : P63.Ok := .of (by kernel_rfl) (by decide +kernel) (by decide +kernel) (by decide +kernel)
theorem pl63 : Plain (stAt 63) := ⟨by kernel_rfl, by kernel_rfl, by decide +kernel⟩
inductive WordsAt (c : Cf) (N : List OD) : D → List (List Nat) → Prop
  | leaf {m : Nat} : LeafOk m → WordsAt c N (.int m) [leafW m]
  | neg {a : D} {w : List (List Nat)} : (∀ q : Kt, q (.lst (w.map sD)) N → CallOk c 115 [a] N q) → WordsAt c N (.lst [sD [126], a]) ([126] :: w)
  | node {op : List Nat} {pw : List (D × List (List Nat))} : op ≠ [126] → pw.length ≤ 1000 → (∀ p ∈ pw, ∀ q : Kt, q (.lst (p.2.map sD)) N → CallOk c 115 [p.1] N q) → WordsAt c N (.lst (sD op :: pw.map (·.1))) ([40] :: op :: pw.flatMap (·.2) ++ [[41]])
theorem words_fn (O : c.Ok) (hn : c.n = n + 1) {d : D} {ws : List (List Nat)} (W : WordsAt (c.wN n) N d ws) (hl : ws.length ≤ 1000) (hk : k (.lst (ws.map sD)) N) : CallOk c 115 [d] N k := by
  refine' enterX (P := P63) (m := 1) hn O.hK.fWords rfl ok63 pl63 rfl (by decide) ?b (by conv => lhs; whnf) ?s ?h
  case b => intro vs hv; intros; obtain ⟨a, rfl⟩ := List.length_eq_one_iff.mp hv; kernel_rfl
  case s =>
    have O := O.wN (n := n)
    repeat (any_goals ((with_reducible first | exact SndS.nil | refine' SndS.ret _ | refine' SndS.asg (by ((with_reducible (repeat (first | exact Slot.hd | apply Slot.tl))))) _ (by (with_unfolding_all exact fun _ => rfl)) _ | refine' SndS.aug (by ((with_reducible (repeat (first | exact Slot.hd | apply Slot.tl))))) _ _ | refine' SndS.iff _ _ _ _ | refine' SndS.exp _ (by (with_unfolding_all exact fun _ => rfl)) _ | (refine' SndS.forE (by assumption) (by assumption) (by ((with_reducible (repeat (first | exact Slot.hd | apply Slot.tl))))) (by ((with_reducible (repeat (first | exact Slot.hd | apply Slot.tl))))) (by ((with_reducible (repeat (first | exact Slot.hd | apply Slot.tl))))) _ (by (with_unfolding_all exact fun _ => rfl)) (by (with_unfolding_all exact fun _ => rfl)) _ _) | refine' SndS.allB (fun _ _ => _) (by assumption) | refine' SndC.allB (fun _ _ => _) (by assumption) | refine' Snd.allB (fun _ _ => _) (by assumption) | refine' SndS.for1 (by ((with_reducible (repeat (first | exact Slot.hd | apply Slot.tl))))) _ (by (with_unfolding_all exact fun _ _ => rfl)) _ _ | refine' SndS.wh _ _ _ | refine' SndC.cmp _ _ (by with_unfolding_all rfl) | refine' SndC.nt _ | refine' SndC.or _ _ | refine' SndC.val _ (by (with_unfolding_all exact fun _ _ => rfl)) | exact Snd.cint | exact Snd.cstr | exact Snd.cnone | exact Snd.cbool | exact Snd.cflt | (apply Snd.loc; (focus (((with_reducible (repeat (first | exact Slot.hd | apply Slot.tl)))); done))) | (apply Snd.glo; (focus assumption); (focus (((with_reducible (repeat (first | exact Slot.hd | apply Slot.tl)))); done)); (focus ((with_reducible (repeat (first | exact At.hd | apply At.tl))); done))) | (apply Snd.blt; (focus assumption); (focus (((with_reducible (repeat (first | exact Slot.hd | apply Slot.tl)))); done)); (focus ((with_reducible (repeat (first | exact At.hd | apply At.tl))); done)); (focus ((with_reducible (repeat (first | exact At.hd | apply At.tl))); done))) | refine' Snd.bin _ _ | refine' Snd.cmp _ _ (by with_unfolding_all rfl) | refine' Snd.see _ _ _ | refine' Snd.sen _ _ | refine' Snd.sne _ _ | refine' Snd.idx _ _ (by (with_unfolding_all exact fun _ _ => rfl)) | refine' Snd.att _ (by (with_unfolding_all exact fun _ => rfl)) | refine' Snd.ite _ _ _ | refine' Snd.and _ _ | refine' Snd.and1 _ | refine' Snd.meth (n := Str.ofString "get_token") (f := .ref 77) _ _ _ (.inr (.inr (Cf.Ok.hK (by assumption)).fGet.keep)) (by intro _; exact ⟨_, by with_unfolding_all rfl⟩) | refine' Snd.meth (n := Str.ofString "push_token") (f := .ref 84) _ _ _ (.inr (.inr (Cf.Ok.hK (by assumption)).fPush.keep)) (by intro _; exact ⟨_, by with_unfolding_all rfl⟩) | refine' Snd.meth (n := Str.ofString "append") (f := .builtin "list.append") _ _ _ (.inl ⟨_, rfl⟩) (by intro _; exact ⟨_, by with_unfolding_all rfl⟩) | refine' Snd.meth (n := Str.ofString "count") (f := .builtin "str.count") _ _ _ (.inl ⟨_, rfl⟩) (by intro _; exact ⟨_, by with_unfolding_all rfl⟩) | refine' Snd.meth (n := Str.ofString "split") (f := .builtin "str.split") _ _ _ (.inl ⟨_, rfl⟩) (by intro _; exact ⟨_, by with_unfolding_all rfl⟩) | refine' Snd.meth (n := Str.ofString "join") (f := .builtin "str.join") _ _ _ (.inl ⟨_, rfl⟩) (by intro _; exact ⟨_, by with_unfolding_all rfl⟩) | refine' Snd.meth (n := Str.ofString "get") (f := .builtin "dict.get") _ _ _ (.inl ⟨_, rfl⟩) (by intro _; exact ⟨_, by with_unfolding_all rfl⟩) | (apply Snd.callB; (focus (apply Snd.blt; (focus assumption); (focus (((with_reducible (repeat (first | exact Slot.hd | apply Slot.tl)))); done)); (focus ((with_reducible (repeat (first | exact At.hd | apply At.tl))); done)); (focus ((with_reducible (repeat (first | exact At.hd | apply At.tl))); done)))); rotate_left 2; (focus ((with_unfolding_all exact fun _ => rfl)))) | (apply Snd.callT; (focus (apply Snd.blt; (focus assumption); (focus (((with_reducible (repeat (first | exact Slot.hd | apply Slot.tl)))); done)); (focus ((with_reducible (repeat (first | exact At.hd | apply At.tl))); done)); (focus ((with_reducible (repeat (first | exact At.hd | apply At.tl))); done)))); rotate_left 2; (focus ((with_unfolding_all exact fun _ => rfl)))) | (apply Snd.callF; (focus assumption); (focus (apply Snd.glo; (focus assumption); (focus (((with_reducible (repeat (first | exact Slot.hd | apply Slot.tl)))); done)); (focus ((with_reducible (repeat (first | exact At.hd | apply At.tl))); done)))); (focus ((first | exact (Cf.Ok.hK (by assumption)).fHls | exact (Cf.Ok.hK (by assumption)).fHsv | exact (Cf.Ok.hK (by assumption)).fIter | exact (Cf.Ok.hK (by assumption)).fStrip | exact (Cf.Ok.hK (by assumption)).fCheck | exact (Cf.Ok.hK (by assumption)).fIseof | exact (Cf.Ok.hK (by assumption)).fTree | exact (Cf.Ok.hK (by assumption)).fWords | exact (Cf.Ok.hK (by assumption)).fSpelled | exact (Cf.Ok.hK (by assumption)).fLexer | exact (Cf.Ok.hK (by assumption)).fNumber | exact (Cf.Ok.hK (by assumption)).fPlay | exact (Cf.Ok.hK (by assumption)).fWorth | exact (Cf.Ok.hK (by assumption)).fRoads | exact (Cf.Ok.hK (by assumption)).fInit | exact (Cf.Ok.hK (by assumption)).fRead | exact (Cf.Ok.hK (by assumption)).fGet | exact (Cf.Ok.hK (by assumption)).fPush))); rotate_left 2; (focus ((with_unfolding_all exact fun _ => rfl)))) | refine' Snd.mkl _ | refine' Snd.mkt _ | exact SndA.nil | refine' SndA.cons _ _ (by (with_unfolding_all exact fun _ => rfl)) | exact AOk.nil | refine' AOk.cons _ (by (with_unfolding_all exact fun _ => rfl)))))
  case h =>
    cases W with
    | @leaf m L =>
      refine FnOk.isInt (TruOk.bool ⟨GetOk.split, FnOk.splitT (tab := signTab) (by decide +kernel) (by decide +kernel) (by decide +kernel) ⟨by decide, ?_⟩⟩)
      refine BinOk.modI (by decide) (BinOk.subI ?_)
      have e1 : ((m : Nat) : Int).fmod 64 - 9 = ((m % 64 - 9 : Nat) : Int) := by
        rw [Int.fmod_eq_emod_of_nonneg _ (by decide)]; have := L.a; (first | lia | omega)
      rw [e1]
      refine IdxOk.seq (.inl rfl) (by decide +kernel) (sign_at (by have := L.b; (first | lia | omega))) (BinOk.fdivI (by decide) (by decide +kernel) ?_)
      have e2 : ((m : Nat) : Int).fdiv 64 = ((m / 64 : Nat) : Int) := by
        rw [Int.fdiv_eq_ediv_of_nonneg _ (by decide)]; rfl
      rw [e2]
      refine IdxOk.seq (.inl rfl) (by decide) (rid_at L.e (congrArg (List.map D.str) (show [_, _, _, _, _, _] = _ by decide +kernel))) (BinOk.addS ?_ ⟨(show 1 ≤ sizeLine by decide), ?_⟩)
      · show (signOf _).toArray.size + (riderOf _).toArray.size ≤ sizeLine
        rw [List.size_toArray, List.size_toArray]
        exact Nat.le_trans (Nat.add_le_add sign_len rider_len) (by decide)
      · rw [sD_add, show m % 64 - 9 + 9 = m % 64 by have := L.a; (first | lia | omega)]; exact hk
    | @neg a w ih =>
      rw [List.length_cons] at hl
      refine FnOk.isIntL (.inl rfl) (TruOk.bool (IdxOk.seq (i := 0) (.inl rfl) (show 2 ≤ sizeLine by decide) rfl (CmpOk.eqS (TruOk.bool ?_))))
      rw [str_eq1 s126]
      refine ⟨(show 1 ≤ sizeLine by decide), IdxOk.seq (i := 1) (.inl rfl) (show 2 ≤ sizeLine by decide) rfl (FnOk.ofCall (ih _ (BinOk.addL ?_ ?_)))⟩
      · rw [List.length_map]; exact Nat.le_trans (show 1 + w.length ≤ 2000 by (first | lia | omega)) (by decide)
      · rw [s126]; exact hk
    | @node op pw hop hl' ih =>
      have ls : (sD op :: pw.map (·.1)).length ≤ sizeLine := by rw [List.length_cons, List.length_map]; exact Nat.le_trans (show pw.length + 1 ≤ 2000 by (first | lia | omega)) (by decide)
      refine FnOk.isIntL (.inl rfl) (TruOk.bool (IdxOk.seq (i := 0) (.inl rfl) ls rfl (CmpOk.eqS (TruOk.bool ?_))))
      rw [str_eq1 s126]
      refine cond_f (decide_eq_false hop) (IdxOk.seq (i := 0) (.inl rfl) ls rfl ⟨(show 2 ≤ sizeLine by decide), SlOk.en (i := 1) (.inl rfl) ls (Exists.intro _ ⟨.inl rfl, ?_⟩)⟩)
      refine forG_inv (fun ds l N' => ∃ pre suf o5, pw = pre ++ suf ∧ ds = suf.map (·.1) ∧ l = [some (.lst (sD op :: pw.map (·.1))), none, none, some (.lst (([40] :: op :: pre.flatMap (·.2)).map sD)), o5] ∧ N' = N) ?_ ?_ _ _ _ ⟨[], pw, none, rfl, rfl, ?_, rfl⟩
      · rintro d ds l N' ⟨pre, suf, o5, e, e2, rfl, rfl⟩ q hq
        cases suf with
        | nil => cases e2
        | cons p suf =>
          cases e2
          have pm : p ∈ pw := by rw [e]; exact List.mem_append_right _ (.head _)
          refine FnOk.ofCall (ih p pm _ (BinOk.addL ?_ (hq _ _ ⟨pre ++ [p], suf, some p.1, by rw [e]; simp, rfl, ?_, rfl⟩)))
          · rw [List.length_map, List.length_map]
            refine Nat.le_trans ?_ (by decide : 2000 ≤ sizeLine)
            rw [e] at hl
            simp only [List.length_append, List.length_cons, List.flatMap_append, List.flatMap_cons] at hl ⊢
            (first | lia | omega)
          · simp [List.flatMap_append]
      · rintro l N' ⟨pre, suf, o5, e, e2, rfl, rfl⟩
        have e3 : suf = [] := List.map_eq_nil_iff.mp e2.symm
        rw [e3, List.append_nil] at e
        refine ⟨(show 1 ≤ sizeLine by decide), BinOk.addL ?_ ?_⟩
        · rw [List.length_map]
          refine Nat.le_trans ?_ (by decide : 2000 ≤ sizeLine)
          rw [← e]
          simp only [List.length_append, List.length_cons, List.length_nil] at hl ⊢
          (first | lia | omega)
        · rw [← e]
          have : ((([40] : List Nat) :: op :: pw.flatMap fun p : D × List (List Nat) => p.2).map sD) ++ [D.str (Str.ofString ")")] = ((([40] : List Nat) :: op :: pw.flatMap fun p : D × List (List Nat) => p.2) ++ [[41]]).map sD := by
            rw [show Str.ofString ")" = ⟨#[41]⟩ by decide +kernel, List.map_append]; rfl
          exact this ▸ hk
      · rw [show Str.ofString "(" = ⟨#[40]⟩ by decide +kernel]; rfl
end
end

noncomputable section
noncomputable def wordsT : Tr → List (List Nat)
  | .leaf m => [leafW m]
  | .neg a => [126] :: wordsT a
  | .two g a b => [40] :: opS g :: (wordsT a ++ wordsT b) ++ [[41]]
  | .three g a b d => [40] :: opS g :: (wordsT a ++ (wordsT b ++ wordsT d)) ++ [[41]]
noncomputable def WFt : Tr → Prop
  | .leaf m => LeafOk m
  | .neg a => WFt a
  | .two _ a b => WFt a ∧ WFt b
  | .three _ a b d => WFt a ∧ WFt b ∧ WFt d
theorem opS_ne (g : Bool) : opS g ≠ [126] := by cases g <;> decide
noncomputable def roadsT : Tr → List Int → List Int → List (Int × Bool)
  | .leaf m, lows, highs => [((m % 64 : Nat), lows.all fun a => highs.all fun b => decide (a < b))]
  | .neg a, lows, highs => roadsT a (highs.map fun h => 64 - h) (lows.map fun l => 64 - l)
  | .two g a b, lows, highs => roadsT a lows highs ++ (if g then roadsT b (lows ++ [worth a]) highs else roadsT b lows (highs ++ [worth a]))
  | .three g a b d, lows, highs => roadsT a lows highs ++ ((if g then roadsT b (lows ++ [worth a]) highs else roadsT b lows (highs ++ [worth a])) ++
      (if g then roadsT d (lows ++ [worth a, worth b]) highs else roadsT d lows (highs ++ [worth a, worth b])))
noncomputable def rdD (r : Int × Bool) : D := .tup [.int r.1, .bool r.2]
section
variable {c : Cf} {N : List OD} {k : Kt} {n : Nat}
theorem words_ok : ∀ (t : Tr) {c : Cf} {N : List OD} {k : Kt}, c.Ok → WFt t → (wordsT t).length ≤ 1000 → dep t < c.n → k (.lst ((wordsT t).map sD)) N → CallOk c 115 [dT t] N k := by
  intro t
  induction t with
  | leaf m =>
    intro c N k O w hl hn hk
    obtain ⟨n, hn'⟩ : ∃ n, c.n = n + 1 := ⟨c.n - 1, by (first | lia | omega)⟩
    exact words_fn O hn' (.leaf w) hl hk
  | neg a ia =>
    intro c N k O w hl hn hk
    obtain ⟨n, hn'⟩ : ∃ n, c.n = n + 1 := ⟨c.n - 1, by (first | lia | omega)⟩
    exact words_fn O hn' (.neg fun q h => ia O.wN w (Nat.le_of_succ_le hl) (show dep a < n by simp only [dep] at hn; (first | lia | omega)) h) hl hk
  | two g a b ia ib =>
    intro c N k O w hl hn hk
    obtain ⟨n, hn'⟩ : ∃ n, c.n = n + 1 := ⟨c.n - 1, by (first | lia | omega)⟩
    simp only [dep] at hn
    have hl' := hl
    simp only [wordsT, List.length_append, List.length_cons, List.cons_append, List.length_nil] at hl'
    have := words_fn (N := N) (k := k) O hn' (.node (pw := [(dT a, wordsT a), (dT b, wordsT b)]) (opS_ne g) (by simp) (List.forall_mem_cons.mpr ⟨fun q h => ia O.wN w.1 (by (first | lia | omega)) (show dep a < n by (first | lia | omega)) h, List.forall_mem_singleton.mpr fun q h => ib O.wN w.2 (by (first | lia | omega)) (show dep b < n by (first | lia | omega)) h⟩))
    simp only [List.flatMap_cons, List.flatMap_nil, List.append_nil] at this
    exact this hl hk
  | three g a b d ia ib id =>
    intro c N k O w hl hn hk
    obtain ⟨n, hn'⟩ : ∃ n, c.n = n + 1 := ⟨c.n - 1, by (first | lia | omega)⟩
    simp only [dep] at hn
    have hl' := hl
    simp only [wordsT, List.length_append, List.length_cons, List.cons_append, List.length_nil] at hl'
    have := words_fn (N := N) (k := k) O hn' (.node (pw := [(dT a, wordsT a), (dT b, wordsT b), (dT d, wordsT d)]) (opS_ne g) (by simp) (List.forall_mem_cons.mpr ⟨fun q h => ia O.wN w.1 (by (first | lia | omega)) (show dep a < n by (first | lia | omega)) h, List.forall_mem_cons.mpr ⟨fun q h => ib O.wN w.2.1 (by (first | lia | omega)) (show dep b < n by (first | lia | omega)) h, List.forall_mem_singleton.mpr fun q h => id O.wN w.2.2 (by (first | lia | omega)) (show dep d < n by (first | lia | omega)) h⟩⟩))
    simp only [List.flatMap_cons, List.flatMap_nil, List.append_nil] at this
    exact this hl hk
@[reducible] noncomputable def P69 : Pm := ⟨scopeOf (stAt 69), [Str.ofString "thing", Str.ofString "lows", Str.ofString "highs", Str.ofString "roads", Str.ofString "place", Str.ofString "elder"], [Str.ofString "isinstance", Str.ofString "int", Str.ofString "max", Str.ofString "min", Str.ofString "_law_roads", Str.ofString "range", Str.ofString "len"]⟩
theorem ok69 : P69.Ok := .of (by kernel_rfl) (by decide +kernel) (by decide +kernel) (by decide +kernel)
theorem pl69 : Plain (stAt 69) := ⟨by kernel_rfl, by kernel_rfl, by decide +kernel⟩
theorem all_lt {lows highs : List Int} {M M' : Int} (m1 : M ∈ lows) (m2 : ∀ a ∈ lows, a ≤ M) (m3 : M' ∈ highs) (m4 : ∀ a ∈ highs, M' ≤ a) : decide (M < M') = lows.all fun a => highs.all fun b => decide (a < b) := by
  rw [Bool.eq_iff_iff, decide_eq_true_eq, List.all_eq_true]
  refine ⟨fun h a ha => List.all_eq_true.mpr fun b hb => decide_eq_true (Int.lt_of_le_of_lt (m2 a ha) (Int.lt_of_lt_of_le h (m4 b hb))), fun h => of_decide_eq_true (List.all_eq_true.mp (h M m1) M' m3)⟩
theorem intD_add {a b : List Int} : a.map D.int ++ b.map D.int = (a ++ b).map D.int := List.map_append.symm
inductive RoadsAt (c : Cf) (N : List OD) (lows highs : List Int) : D → List (Int × Bool) → Prop
  | leaf {m : Nat} : RoadsAt c N lows highs (.int m) [((m % 64 : Nat), lows.all fun a => highs.all fun b => decide (a < b))]
  | neg {a : D} {r : List (Int × Bool)} : (∀ q : Kt, q (.lst (r.map rdD)) N → CallOk c 149 [a, .lst ((highs.map fun h => 64 - h).map .int), .lst ((lows.map fun h => 64 - h).map .int)] N q) → RoadsAt c N lows highs (.lst [sD [126], a]) r
  | node {g : Bool} {ps : List Tr} {rs : List (List (Int × Bool))} : ps.length ≤ 9 → (∀ p ∈ ps, ∀ q : Kt, q (.int (worth p)) N → CallOk c 144 [dT p] N q) → (∀ i p, ps[i]? = some p → ∃ r, rs[i]? = some r ∧ ∀ q : Kt, q (.lst (r.map rdD)) N →
      CallOk c 149 [dT p, .lst ((if g then lows ++ (ps.take i).map worth else lows).map .int), .lst ((if g then highs else highs ++ (ps.take i).map worth).map .int)] N q) → RoadsAt c N lows highs (.lst (sD (opS g) :: ps.map dT)) (rs.take ps.length).flatten
theorem roads_fn (O : c.Ok) (hn : c.n = n + 1) {d : D} {lows highs : List Int} {rs : List (Int × Bool)} (h1 : 0 < lows.length) (h2 : 0 < highs.length) (h3 : lows.length ≤ 500) (h4 : highs.length ≤ 500) (hr : rs.length ≤ 1000) (W : RoadsAt (c.wN n) N lows highs d rs)
    (hk : k (.lst (rs.map rdD)) N) : CallOk c 149 [d, .lst (lows.map .int), .lst (highs.map .int)] N k := by
  refine' enterX (P := P69) (m := 3) hn O.hK.fRoads rfl ok69 pl69 rfl (by decide) ?b (by conv => lhs; whnf) ?s ?h
  case b => intro vs hv; intros; rcases vs with _ | ⟨a, _ | ⟨b, _ | ⟨e, _ | _⟩⟩⟩ <;> first | (simp at hv; done) | kernel_rfl
  case s =>
    have O := O.wN (n := n)
    refine' SndS.iff _ _ SndS.nil (SndS.iff _ (SndS.ret (Snd.callF O _ O.hK.fRoads (SndA.cons _ (SndA.cons (Snd.comp (CmpB.one (P' := ⟨_, [Str.ofString "high"], []⟩) _ rfl (.of rfl (by decide +kernel) (by decide +kernel) (by decide +kernel)) (.of (by decide +kernel) rfl) _) (.of (by decide +kernel) rfl) (by (with_unfolding_all exact fun _ _ => rfl))) (SndA.cons (Snd.comp (CmpB.one (P' := ⟨_, [Str.ofString "low"], []⟩) _ rfl (.of rfl (by decide +kernel) (by decide +kernel) (by decide +kernel)) (.of (by decide +kernel) rfl) _) (.of (by decide +kernel) rfl) (by (with_unfolding_all exact fun _ _ => rfl))) .nil (by (with_unfolding_all exact fun _ => rfl))) (by (with_unfolding_all exact fun _ => rfl))) (by (with_unfolding_all exact fun _ => rfl))) (AOk.cons (AOk.cons (AOk.cons AOk.nil (by (with_unfolding_all exact fun _ => rfl))) (by (with_unfolding_all exact fun _ => rfl))) (by (with_unfolding_all exact fun _ => rfl))) (by (with_unfolding_all exact fun _ => rfl)))) SndS.nil
      (SndS.asg (by ((with_reducible (repeat (first | exact Slot.hd | apply Slot.tl))))) _ (by (with_unfolding_all exact fun _ => rfl)) (SndS.for1 (by ((with_reducible (repeat (first | exact Slot.hd | apply Slot.tl))))) _ (by (with_unfolding_all exact fun _ _ => rfl)) (SndS.asgC (by ((with_reducible (repeat (first | exact Slot.hd | apply Slot.tl))))) (CmpB.one (P' := ⟨_, [Str.ofString "part"], [Str.ofString "_law_worth"]⟩) _ rfl (.of rfl (by decide +kernel) (by decide +kernel) (by decide +kernel)) (.of (by decide +kernel) rfl) _) (.of (by decide +kernel) rfl) (by (with_unfolding_all exact fun _ _ => rfl)) (fun env e => sw_of e ok69 (by simp) rfl (by decide +kernel)) _) _)))
    repeat (any_goals ((with_reducible first | exact SndS.nil | refine' SndS.ret _ | refine' SndS.asg (by ((with_reducible (repeat (first | exact Slot.hd | apply Slot.tl))))) _ (by (with_unfolding_all exact fun _ => rfl)) _ | refine' SndS.aug (by ((with_reducible (repeat (first | exact Slot.hd | apply Slot.tl))))) _ _ | refine' SndS.iff _ _ _ _ | refine' SndS.exp _ (by (with_unfolding_all exact fun _ => rfl)) _ | (refine' SndS.forE (by assumption) (by assumption) (by ((with_reducible (repeat (first | exact Slot.hd | apply Slot.tl))))) (by ((with_reducible (repeat (first | exact Slot.hd | apply Slot.tl))))) (by ((with_reducible (repeat (first | exact Slot.hd | apply Slot.tl))))) _ (by (with_unfolding_all exact fun _ => rfl)) (by (with_unfolding_all exact fun _ => rfl)) _ _) | refine' SndS.allB (fun _ _ => _) (by assumption) | refine' SndC.allB (fun _ _ => _) (by assumption) | refine' Snd.allB (fun _ _ => _) (by assumption) | refine' SndS.for1 (by ((with_reducible (repeat (first | exact Slot.hd | apply Slot.tl))))) _ (by (with_unfolding_all exact fun _ _ => rfl)) _ _ | refine' SndS.wh _ _ _ | refine' SndC.cmp _ _ (by with_unfolding_all rfl) | refine' SndC.nt _ | refine' SndC.or _ _ | refine' SndC.val _ (by (with_unfolding_all exact fun _ _ => rfl)) | exact Snd.cint | exact Snd.cstr | exact Snd.cnone | exact Snd.cbool | exact Snd.cflt | (apply Snd.loc; (focus (((with_reducible (repeat (first | exact Slot.hd | apply Slot.tl)))); done))) | (apply Snd.glo; (focus assumption); (focus (((with_reducible (repeat (first | exact Slot.hd | apply Slot.tl)))); done)); (focus ((with_reducible (repeat (first | exact At.hd | apply At.tl))); done))) | (apply Snd.blt; (focus assumption); (focus (((with_reducible (repeat (first | exact Slot.hd | apply Slot.tl)))); done)); (focus ((with_reducible (repeat (first | exact At.hd | apply At.tl))); done)); (focus ((with_reducible (repeat (first | exact At.hd | apply At.tl))); done))) | refine' Snd.bin _ _ | refine' Snd.cmp _ _ (by with_unfolding_all rfl) | refine' Snd.see _ _ _ | refine' Snd.sen _ _ | refine' Snd.sne _ _ | refine' Snd.idx _ _ (by (with_unfolding_all exact fun _ _ => rfl)) | refine' Snd.att _ (by (with_unfolding_all exact fun _ => rfl)) | refine' Snd.ite _ _ _ | refine' Snd.and _ _ | refine' Snd.and1 _ | refine' Snd.meth (n := Str.ofString "get_token") (f := .ref 77) _ _ _ (.inr (.inr (Cf.Ok.hK (by assumption)).fGet.keep)) (by intro _; exact ⟨_, by with_unfolding_all rfl⟩) | refine' Snd.meth (n := Str.ofString "push_token") (f := .ref 84) _ _ _ (.inr (.inr (Cf.Ok.hK (by assumption)).fPush.keep)) (by intro _; exact ⟨_, by with_unfolding_all rfl⟩) | refine' Snd.meth (n := Str.ofString "append") (f := .builtin "list.append") _ _ _ (.inl ⟨_, rfl⟩) (by intro _; exact ⟨_, by with_unfolding_all rfl⟩) | refine' Snd.meth (n := Str.ofString "count") (f := .builtin "str.count") _ _ _ (.inl ⟨_, rfl⟩) (by intro _; exact ⟨_, by with_unfolding_all rfl⟩) | refine' Snd.meth (n := Str.ofString "split") (f := .builtin "str.split") _ _ _ (.inl ⟨_, rfl⟩) (by intro _; exact ⟨_, by with_unfolding_all rfl⟩) | refine' Snd.meth (n := Str.ofString "join") (f := .builtin "str.join") _ _ _ (.inl ⟨_, rfl⟩) (by intro _; exact ⟨_, by with_unfolding_all rfl⟩) | refine' Snd.meth (n := Str.ofString "get") (f := .builtin "dict.get") _ _ _ (.inl ⟨_, rfl⟩) (by intro _; exact ⟨_, by with_unfolding_all rfl⟩) | (apply Snd.callB; (focus (apply Snd.blt; (focus assumption); (focus (((with_reducible (repeat (first | exact Slot.hd | apply Slot.tl)))); done)); (focus ((with_reducible (repeat (first | exact At.hd | apply At.tl))); done)); (focus ((with_reducible (repeat (first | exact At.hd | apply At.tl))); done)))); rotate_left 2; (focus ((with_unfolding_all exact fun _ => rfl)))) | (apply Snd.callT; (focus (apply Snd.blt; (focus assumption); (focus (((with_reducible (repeat (first | exact Slot.hd | apply Slot.tl)))); done)); (focus ((with_reducible (repeat (first | exact At.hd | apply At.tl))); done)); (focus ((with_reducible (repeat (first | exact At.hd | apply At.tl))); done)))); rotate_left 2; (focus ((with_unfolding_all exact fun _ => rfl)))) | (apply Snd.callF; (focus assumption); (focus (apply Snd.glo; (focus assumption); (focus (((with_reducible (repeat (first | exact Slot.hd | apply Slot.tl)))); done)); (focus ((with_reducible (repeat (first | exact At.hd | apply At.tl))); done)))); (focus ((first | exact (Cf.Ok.hK (by assumption)).fHls | exact (Cf.Ok.hK (by assumption)).fHsv | exact (Cf.Ok.hK (by assumption)).fIter | exact (Cf.Ok.hK (by assumption)).fStrip | exact (Cf.Ok.hK (by assumption)).fCheck | exact (Cf.Ok.hK (by assumption)).fIseof | exact (Cf.Ok.hK (by assumption)).fTree | exact (Cf.Ok.hK (by assumption)).fWords | exact (Cf.Ok.hK (by assumption)).fSpelled | exact (Cf.Ok.hK (by assumption)).fLexer | exact (Cf.Ok.hK (by assumption)).fNumber | exact (Cf.Ok.hK (by assumption)).fPlay | exact (Cf.Ok.hK (by assumption)).fWorth | exact (Cf.Ok.hK (by assumption)).fRoads | exact (Cf.Ok.hK (by assumption)).fInit | exact (Cf.Ok.hK (by assumption)).fRead | exact (Cf.Ok.hK (by assumption)).fGet | exact (Cf.Ok.hK (by assumption)).fPush))); rotate_left 2; (focus ((with_unfolding_all exact fun _ => rfl)))) | refine' Snd.mkl _ | refine' Snd.mkt _ | exact SndA.nil | refine' SndA.cons _ _ (by (with_unfolding_all exact fun _ => rfl)) | exact AOk.nil | refine' AOk.cons _ (by (with_unfolding_all exact fun _ => rfl)))))
  case h =>
    have sz : ∀ {m : Nat}, m ≤ 2000 → m ≤ sizeLine := fun h => Nat.le_trans h (by decide)
    cases W with
    | @leaf m =>
      refine FnOk.isInt (TruOk.bool (BinOk.modI (by decide) (FnOk.max1 (.inl rfl) h1 fun M m1 m2 => FnOk.min1 (.inl rfl) h2 fun M' m3 m4 => CmpOk.ltI ⟨(show 2 ≤ sizeLine by decide), (show 1 ≤ sizeLine by decide), ?_⟩)))
      rw [all_lt m1 m2 m3 m4, show ((m : Nat) : Int).fmod 64 = ((m % 64 : Nat) : Int) from by rw [Int.fmod_eq_emod_of_nonneg _ (by decide)]; rfl]
      exact hk
    | @neg a r ih =>
      refine FnOk.isIntL (.inl rfl) (TruOk.bool (IdxOk.seq (i := 0) (.inl rfl) (show 2 ≤ sizeLine by decide) rfl (CmpOk.eqS (TruOk.bool ?_))))
      rw [str_eq1 s126]
      refine IdxOk.seq (i := 1) (.inl rfl) (show 2 ≤ sizeLine by decide) rfl (Exists.intro _ ⟨.inl rfl, compG_one (f := D.int) (g := fun h => .int (64 - h)) highs [] (fun h _ q hq => BinOk.subI hq) (by rw [List.length_nil]; (first | lia | omega))
        (Exists.intro _ ⟨.inl rfl, compG_one (f := D.int) (g := fun h => .int (64 - h)) lows [] (fun h _ q hq => BinOk.subI hq) (by rw [List.length_nil]; (first | lia | omega)) ?_⟩)⟩)
      have e : ∀ l : List Int, [] ++ l.map (fun h => D.int (64 - h)) = (l.map fun h => 64 - h).map .int := fun l => by rw [List.map_map]; rfl
      rw [e, e]
      exact FnOk.ofCall (ih _ hk)
    | @node g ps rs' hp hw ih =>
      have ls : (sD (opS g) :: ps.map dT).length ≤ sizeLine := by rw [List.length_cons, List.length_map]; exact sz (by (first | lia | omega))
      refine FnOk.isIntL (.inl rfl) (TruOk.bool (IdxOk.seq (i := 0) (.inl rfl) ls rfl (CmpOk.eqS (TruOk.bool ?_))))
      rw [str_eq1 s126]
      refine cond_f (decide_eq_false (opS_ne g)) ⟨(show 0 ≤ sizeLine by decide), FnOk.lenL (.inl rfl) ls (FnOk.range2 (Exists.intro _ ⟨.inr (.inl ⟨ps.length, 1, congrArg (D.rng 1) (by rw [List.length_cons, List.length_map]; (first | lia | omega)), by decide, by (first | lia | omega), rfl⟩), ?_⟩))⟩
      refine forG_inv (fun ds l N' => ∃ i o5 o6, i ≤ ps.length ∧ ds = ((List.range ps.length).map fun (i : Nat) => D.int (1 + i)).drop i ∧ l = [some (.lst (sD (opS g) :: ps.map dT)), some (.lst (lows.map .int)), some (.lst (highs.map .int)), some (.lst ((rs'.take i).flatten.map rdD)), o5, o6] ∧ N' = N) ?_ ?_ _ _ _ ⟨0, none, none, Nat.zero_le _, rfl, rfl, rfl⟩
      · rintro d ds l N' ⟨i, o5, o6, hi, e, rfl, rfl⟩ q hq
        have hi' : i < ps.length := by
          have := congrArg List.length e
          simp at this; (first | lia | omega)
        rw [List.drop_eq_getElem_cons (by simpa using hi')] at e
        obtain ⟨e1, e2⟩ := List.cons.inj e
        have e1 : d = .int ((1 + i : Nat)) := by rw [e1]; simp
        subst e1
        have hp' : ps[i]? = some ps[i] := List.getElem?_eq_getElem hi'
        obtain ⟨r, hr', ih⟩ := ih i _ hp'
        have hth : (sD (opS g) :: ps.map dT)[1 + i]? = some (dT ps[i]) := by rw [Nat.add_comm 1 i, List.getElem?_cons_succ, List.getElem?_map, hp']; rfl
        have hpl : ((ps.take i).map worth).length ≤ 9 := by rw [List.length_map, List.length_take]; (first | lia | omega)
        have htk : (rs'.take (i + 1)).flatten = (rs'.take i).flatten ++ r := by rw [List.take_succ, hr']; simp
        have hlen : (rs'.take i).flatten.length + r.length ≤ 1000 := by
          have e3 := List.take_append_drop (i + 1) (rs'.take ps.length)
          rw [List.take_take, Nat.min_eq_left hi'] at e3
          rw [← e3, List.flatten_append, List.length_append, htk, List.length_append] at hr
          (first | lia | omega)
        refine SlOk.ee (i := 1) (j := 1 + i) (.inl rfl) ls ?_
        rw [show ((sD (opS g) :: ps.map dT).drop 1).take (1 + i - 1) = (ps.take i).map dT from by rw [Nat.add_sub_cancel_left, List.map_take]; rfl]
        refine Exists.intro _ ⟨.inl rfl, compG_one (f := dT) (g := fun p => .int (worth p)) (ps.take i) [] (fun p m q h => FnOk.ofCall (hw p (List.mem_of_mem_take m) q h)) (by rw [List.length_nil, List.length_take]; (first | lia | omega)) ?_⟩
        rw [List.nil_append, show (ps.take i).map (fun p => D.int (worth p)) = ((ps.take i).map worth).map D.int by rw [List.map_map]; rfl]
        refine IdxOk.seq (i := 0) (.inl rfl) ls rfl (CmpOk.eqS (TruOk.bool ?_))
        rw [str_eq1 s62]
        have nx : ∀ o5 o6, q [some (.lst (sD (opS g) :: ps.map dT)), some (.lst (lows.map .int)), some (.lst (highs.map .int)), some (.lst ((rs'.take i).flatten.map rdD ++ r.map rdD)), o5, o6] N' := fun o5 o6 => by
          rw [← List.map_append, ← htk]
          exact hq _ _ ⟨i + 1, o5, o6, hi', e2, rfl, rfl⟩
        cases g with
        | true =>
          refine IdxOk.seq (i := 1 + i) (.inl rfl) ls hth (BinOk.addL (sz (by rw [List.length_map, List.length_map]; (first | lia | omega))) ?_)
          rw [intD_add]
          exact FnOk.ofCall (ih _ (BinOk.addL (sz (by rw [List.length_map, List.length_map]; (first | lia | omega))) (nx _ _)))
        | false =>
          refine IdxOk.seq (i := 1 + i) (.inl rfl) ls hth (BinOk.addL (sz (by rw [List.length_map, List.length_map]; (first | lia | omega))) ?_)
          rw [intD_add]
          exact FnOk.ofCall (ih _ (BinOk.addL (sz (by rw [List.length_map, List.length_map]; (first | lia | omega))) (nx _ _)))
      · rintro l N' ⟨i, o5, o6, hi, e, rfl, rfl⟩
        have : i = ps.length := by
          have := congrArg List.length e
          simp at this; (first | lia | omega)
        subst this; exact hk
end
end

noncomputable section
noncomputable def lvs : Tr → Nat
  | .leaf _ => 1
  | .neg a => lvs a
  | .two _ a b => lvs a + lvs b
  | .three _ a b d => lvs a + lvs b + lvs d
theorem roads_len : ∀ (t : Tr) (lo hi : List Int), (roadsT t lo hi).length = lvs t
  | .leaf _, _, _ => rfl
  | .neg a, _, _ => roads_len a _ _
  | .two g a b, lo, hi => by
    have h1 := roads_len a
    have h2 := roads_len b
    cases g <;> simp [roadsT, lvs, h1, h2]
  | .three g a b d, lo, hi => by
    have h1 := roads_len a
    have h2 := roads_len b
    have h3 := roads_len d
    cases g <;> simp [roadsT, lvs, h1, h2, h3, Nat.add_assoc]
theorem roads_ok : ∀ (t : Tr) {c : Cf} {N : List OD} {k : Kt} (lows highs : List Int), c.Ok → 0 < lows.length → 0 < highs.length → lows.length + 2 * dep t ≤ 400 → highs.length + 2 * dep t ≤ 400 → lvs t ≤ 1000 → dep t < c.n →
    k (.lst ((roadsT t lows highs).map rdD)) N → CallOk c 149 [dT t, .lst (lows.map .int), .lst (highs.map .int)] N k := by
  intro t
  induction t with
  | leaf m =>
    intro c N k lows highs O h1 h2 h3 h4 h5 hn hk
    obtain ⟨n, hn'⟩ : ∃ n, c.n = n + 1 := ⟨c.n - 1, by (first | lia | omega)⟩
    exact roads_fn O hn' h1 h2 (by (first | lia | omega)) (by (first | lia | omega)) (by simp) .leaf hk
  | neg a ia =>
    intro c N k lows highs O h1 h2 h3 h4 h5 hn hk
    obtain ⟨n, hn'⟩ : ∃ n, c.n = n + 1 := ⟨c.n - 1, by (first | lia | omega)⟩
    simp only [dep] at hn h3 h4
    exact roads_fn O hn' h1 h2 (by (first | lia | omega)) (by (first | lia | omega)) (by rw [roads_len]; exact h5) (.neg fun q h => ia _ _ O.wN (by rw [List.length_map]; exact h2) (by rw [List.length_map]; exact h1) (by rw [List.length_map]; (first | lia | omega)) (by rw [List.length_map]; (first | lia | omega)) h5 (show dep a < n by (first | lia | omega)) h) hk
  | two g a b ia ib =>
    intro c N k lows highs O h1 h2 h3 h4 h5 hn hk
    obtain ⟨n, hn'⟩ : ∃ n, c.n = n + 1 := ⟨c.n - 1, by (first | lia | omega)⟩
    have hl := roads_len (.two g a b) lows highs
    simp only [dep] at hn h3 h4
    simp only [lvs] at h5 hl
    have e : (([roadsT a lows highs, if g then roadsT b (lows ++ [worth a]) highs else roadsT b lows (highs ++ [worth a])] : List (List (Int × Bool))).take 2).flatten = roadsT (.two g a b) lows highs := by simp [roadsT]
    have W := @RoadsAt.node (c.wN n) N lows highs g [a, b] [roadsT a lows highs, if g then roadsT b (lows ++ [worth a]) highs else roadsT b lows (highs ++ [worth a])] (by simp) (List.forall_mem_cons.mpr ⟨fun q h => worth_ok a O.wN (show dep a < n by (first | lia | omega)) h, List.forall_mem_singleton.mpr fun q h => worth_ok b O.wN (show dep b < n by (first | lia | omega)) h⟩) (fun i p hp => by
      rcases i with _ | _ | i
      · cases hp
        refine ⟨_, rfl, fun q h => ?_⟩
        cases g <;> simp only [List.take_zero, List.map_nil, List.append_nil, if_true, Bool.false_eq_true, if_false] <;> exact ia _ _ O.wN h1 h2 (by (first | lia | omega)) (by (first | lia | omega)) (by (first | lia | omega)) (show dep a < n by (first | lia | omega)) h
      · cases hp
        refine ⟨_, rfl, fun q h => ?_⟩
        cases g with
        | true => exact ib (lows ++ [worth a]) highs O.wN (by simp) h2 (by rw [List.length_append]; simp only [List.length_cons, List.length_nil]; (first | lia | omega)) (by (first | lia | omega)) (by (first | lia | omega)) (show dep b < n by (first | lia | omega)) h
        | false => exact ib lows (highs ++ [worth a]) O.wN h1 (by simp) (by (first | lia | omega)) (by rw [List.length_append]; simp only [List.length_cons, List.length_nil]; (first | lia | omega)) (by (first | lia | omega)) (show dep b < n by (first | lia | omega)) h
      · cases hp)
    rw [show [a, b].length = 2 from rfl, e] at W
    exact roads_fn O hn' h1 h2 (by (first | lia | omega)) (by (first | lia | omega)) (by (first | lia | omega)) W hk
  | three g a b d ia ib id =>
    intro c N k lows highs O h1 h2 h3 h4 h5 hn hk
    obtain ⟨n, hn'⟩ : ∃ n, c.n = n + 1 := ⟨c.n - 1, by (first | lia | omega)⟩
    have hl := roads_len (.three g a b d) lows highs
    simp only [dep] at hn h3 h4
    simp only [lvs] at h5 hl
    have e : (([roadsT a lows highs, if g then roadsT b (lows ++ [worth a]) highs else roadsT b lows (highs ++ [worth a]), if g then roadsT d (lows ++ [worth a, worth b]) highs else roadsT d lows (highs ++ [worth a, worth b])] : List (List (Int × Bool))).take 3).flatten = roadsT (.three g a b d) lows highs := by simp [roadsT]
    have W := @RoadsAt.node (c.wN n) N lows highs g [a, b, d] [roadsT a lows highs, if g then roadsT b (lows ++ [worth a]) highs else roadsT b lows (highs ++ [worth a]), if g then roadsT d (lows ++ [worth a, worth b]) highs else roadsT d lows (highs ++ [worth a, worth b])] (by simp)
      (List.forall_mem_cons.mpr ⟨fun q h => worth_ok a O.wN (show dep a < n by (first | lia | omega)) h, List.forall_mem_cons.mpr ⟨fun q h => worth_ok b O.wN (show dep b < n by (first | lia | omega)) h, List.forall_mem_singleton.mpr fun q h => worth_ok d O.wN (show dep d < n by (first | lia | omega)) h⟩⟩) (fun i p hp => by
      rcases i with _ | _ | _ | i
      · cases hp
        refine ⟨_, rfl, fun q h => ?_⟩
        cases g <;> simp only [List.take_zero, List.map_nil, List.append_nil, if_true, Bool.false_eq_true, if_false] <;> exact ia _ _ O.wN h1 h2 (by (first | lia | omega)) (by (first | lia | omega)) (by (first | lia | omega)) (show dep a < n by (first | lia | omega)) h
      · cases hp
        refine ⟨_, rfl, fun q h => ?_⟩
        cases g with
        | true => exact ib (lows ++ [worth a]) highs O.wN (by simp) h2 (by rw [List.length_append]; simp only [List.length_cons, List.length_nil]; (first | lia | omega)) (by (first | lia | omega)) (by (first | lia | omega)) (show dep b < n by (first | lia | omega)) h
        | false => exact ib lows (highs ++ [worth a]) O.wN h1 (by simp) (by (first | lia | omega)) (by rw [List.length_append]; simp only [List.length_cons, List.length_nil]; (first | lia | omega)) (by (first | lia | omega)) (show dep b < n by (first | lia | omega)) h
      · cases hp
        refine ⟨_, rfl, fun q h => ?_⟩
        cases g with
        | true => exact id (lows ++ [worth a, worth b]) highs O.wN (by simp) h2 (by rw [List.length_append]; simp only [List.length_cons, List.length_nil]; (first | lia | omega)) (by (first | lia | omega)) (by (first | lia | omega)) (show dep d < n by (first | lia | omega)) h
        | false => exact id lows (highs ++ [worth a, worth b]) O.wN h1 (by simp) (by (first | lia | omega)) (by rw [List.length_append]; simp only [List.length_cons, List.length_nil]; (first | lia | omega)) (by (first | lia | omega)) (show dep d < n by (first | lia | omega)) h
      · cases hp)
    rw [show [a, b, d].length = 3 from rfl, e] at W
    exact roads_fn O hn' h1 h2 (by (first | lia | omega)) (by (first | lia | omega)) (by (first | lia | omega)) W hk
end

noncomputable section
noncomputable def leafV (x : Int) : Int := (if x.fmod 45 < 22 then 9 + x.fmod 45 else 10 + x.fmod 45) + 64 * (x.fdiv 45).fmod 6
noncomputable def mk3 (g : Bool) : List Tr → Tr
  | [a, b] => .two g a b
  | a :: b :: d :: _ => .three g a b d
  | _ => .leaf 9
noncomputable def atOf (x : Int) (ts : List Tr) : Nat := (x.fmod ((ts.length : Int) - 1)).toNat
noncomputable def behOf (x : Int) (ts : List Tr) : Nat := atOf x ts + 2 + ((x.fdiv 7).fmod 2).toNat
noncomputable def nodeOf (x : Int) (ts : List Tr) : Tr :=
  let m := mk3 ((x.fdiv 3).fmod 2 == 1) ((ts.drop (atOf x ts)).take (behOf x ts - atOf x ts))
  if (x.fdiv 5).fmod 3 = 2 then .neg m else m
noncomputable def stepT (ts : List Tr) (x : Int) : List Tr := if 1 < ts.length then ts.take (atOf x ts) ++ [nodeOf x ts] ++ ts.drop (behOf x ts) else ts
noncomputable def treeL (xs : List Int) : List Tr := xs.foldl stepT (xs.map fun x => .leaf (leafV x).toNat)
theorem fmod_nn {x m : Int} (h : 0 < m) : 0 ≤ x.fmod m ∧ x.fmod m < m := by
  rw [Int.fmod_eq_emod_of_nonneg _ (Int.le_of_lt h)]; exact ⟨Int.emod_nonneg _ (Int.ne_of_gt h), Int.emod_lt_of_pos _ h⟩
theorem leafV_nn (x : Int) : 0 ≤ leafV x := by
  unfold leafV
  have h1 := fmod_nn (x := x) (m := 45) (by decide)
  have h2 := fmod_nn (x := x.fdiv 45) (m := 6) (by decide)
  split <;> omega
theorem at_lt {x : Int} {ts : List Tr} (h : 1 < ts.length) : ((atOf x ts : Nat) : Int) = x.fmod ((ts.length : Int) - 1) ∧ atOf x ts + 2 ≤ ts.length := by
  have h1 := fmod_nn (x := x) (m := (ts.length : Int) - 1) (by omega)
  unfold atOf
  exact ⟨Int.toNat_of_nonneg h1.1, by omega⟩
theorem mid_len {x : Int} {ts : List Tr} (h : 1 < ts.length) : ∃ a b, (ts.drop (atOf x ts)).take (behOf x ts - atOf x ts) = [a, b] ∨ ∃ d, (ts.drop (atOf x ts)).take (behOf x ts - atOf x ts) = [a, b, d] := by
  have h1 := (at_lt (x := x) h).2
  have h2 := fmod_nn (x := x.fdiv 7) (m := 2) (by decide)
  have hl : ((ts.drop (atOf x ts)).take (behOf x ts - atOf x ts)).length = 2 ∨ ((ts.drop (atOf x ts)).take (behOf x ts - atOf x ts)).length = 3 := by
    rw [List.length_take, List.length_drop]; unfold behOf; omega
  generalize (ts.drop (atOf x ts)).take (behOf x ts - atOf x ts) = m at hl
  rcases m with _ | ⟨a, _ | ⟨b, _ | ⟨d, _ | _⟩⟩⟩
  · simp at hl
  · simp at hl
  · exact ⟨a, b, .inl rfl⟩
  · exact ⟨a, b, .inr ⟨d, rfl⟩⟩
  · simp at hl
theorem mk3_D {g : Bool} {m : List Tr} (h : ∃ a b, m = [a, b] ∨ ∃ d, m = [a, b, d]) : dT (mk3 g m) = .lst (sD (opS g) :: m.map dT) := by
  obtain ⟨a, b, rfl | ⟨d, rfl⟩⟩ := h <;> rfl
@[reducible] noncomputable def P62 : Pm := ⟨scopeOf (stAt 62), [Str.ofString "numbers", Str.ofString "things", Str.ofString "x", Str.ofString "step", Str.ofString "at", Str.ofString "behind", Str.ofString "node"], [Str.ofString "len"]⟩
theorem ok62 : P62.Ok := .of (by kernel_rfl) (by decide +kernel) (by decide +kernel) (by decide +kernel)
theorem pl62 : Plain (stAt 62) := ⟨by kernel_rfl, by kernel_rfl, by decide +kernel⟩
section
variable {c : Cf} {N : List OD} {k : Kt} {n : Nat}
theorem tree_fn (O : c.Ok) (hn : c.n = n + 1) {xs : List Int} (h1 : 0 < xs.length) (h2 : xs.length ≤ 100) (hk : ∀ t, (treeL xs)[0]? = some t → k (dT t) (N ++ [.lst (xs.map fun x => .int (leafV x))])) : CallOk c 108 [.lst (xs.map .int)] N k := by
  refine' enterX (P := P62) (m := 1) hn O.hK.fTree rfl ok62 pl62 rfl (by decide) ?b (by conv => lhs; whnf) ?s ?h
  case b => intro vs hv; intros; rcases vs with _ | ⟨a, _ | _⟩ <;> first | (simp at hv; done) | kernel_rfl
  case s =>
    have O := O.wN (n := n)
    repeat (any_goals (first | exact Snd.newl | (with_reducible first | exact SndS.nil | refine' SndS.ret _ | refine' SndS.asg (by ((with_reducible (repeat (first | exact Slot.hd | apply Slot.tl))))) _ (by (with_unfolding_all exact fun _ => rfl)) _ | refine' SndS.aug (by ((with_reducible (repeat (first | exact Slot.hd | apply Slot.tl))))) _ _ | refine' SndS.iff _ _ _ _ | refine' SndS.exp _ (by (with_unfolding_all exact fun _ => rfl)) _ | (refine' SndS.forE (by assumption) (by assumption) (by ((with_reducible (repeat (first | exact Slot.hd | apply Slot.tl))))) (by ((with_reducible (repeat (first | exact Slot.hd | apply Slot.tl))))) (by ((with_reducible (repeat (first | exact Slot.hd | apply Slot.tl))))) _ (by (with_unfolding_all exact fun _ => rfl)) (by (with_unfolding_all exact fun _ => rfl)) _ _) | refine' SndS.allB (fun _ _ => _) (by assumption) | refine' SndC.allB (fun _ _ => _) (by assumption) | refine' Snd.allB (fun _ _ => _) (by assumption) | refine' SndS.for1 (by ((with_reducible (repeat (first | exact Slot.hd | apply Slot.tl))))) _ (by (with_unfolding_all exact fun _ _ => rfl)) _ _ | refine' SndS.wh _ _ _ | refine' SndC.cmp _ _ (by with_unfolding_all rfl) | refine' SndC.nt _ | refine' SndC.or _ _ | refine' SndC.val _ (by (with_unfolding_all exact fun _ _ => rfl)) | exact Snd.cint | exact Snd.cstr | exact Snd.cnone | exact Snd.cbool | exact Snd.cflt | (apply Snd.loc; (focus (((with_reducible (repeat (first | exact Slot.hd | apply Slot.tl)))); done))) | (apply Snd.glo; (focus assumption); (focus (((with_reducible (repeat (first | exact Slot.hd | apply Slot.tl)))); done)); (focus ((with_reducible (repeat (first | exact At.hd | apply At.tl))); done))) | (apply Snd.blt; (focus assumption); (focus (((with_reducible (repeat (first | exact Slot.hd | apply Slot.tl)))); done)); (focus ((with_reducible (repeat (first | exact At.hd | apply At.tl))); done)); (focus ((with_reducible (repeat (first | exact At.hd | apply At.tl))); done))) | refine' Snd.bin _ _ | refine' Snd.cmp _ _ (by with_unfolding_all rfl) | refine' Snd.see _ _ _ | refine' Snd.sen _ _ | refine' Snd.sne _ _ | refine' Snd.idx _ _ (by (with_unfolding_all exact fun _ _ => rfl)) | refine' Snd.att _ (by (with_unfolding_all exact fun _ => rfl)) | refine' Snd.ite _ _ _ | refine' Snd.and _ _ | refine' Snd.and1 _ | refine' Snd.meth (n := Str.ofString "get_token") (f := .ref 77) _ _ _ (.inr (.inr (Cf.Ok.hK (by assumption)).fGet.keep)) (by intro _; exact ⟨_, by with_unfolding_all rfl⟩) | refine' Snd.meth (n := Str.ofString "push_token") (f := .ref 84) _ _ _ (.inr (.inr (Cf.Ok.hK (by assumption)).fPush.keep)) (by intro _; exact ⟨_, by with_unfolding_all rfl⟩) | refine' Snd.meth (n := Str.ofString "append") (f := .builtin "list.append") _ _ _ (.inl ⟨_, rfl⟩) (by intro _; exact ⟨_, by with_unfolding_all rfl⟩) | refine' Snd.meth (n := Str.ofString "count") (f := .builtin "str.count") _ _ _ (.inl ⟨_, rfl⟩) (by intro _; exact ⟨_, by with_unfolding_all rfl⟩) | refine' Snd.meth (n := Str.ofString "split") (f := .builtin "str.split") _ _ _ (.inl ⟨_, rfl⟩) (by intro _; exact ⟨_, by with_unfolding_all rfl⟩) | refine' Snd.meth (n := Str.ofString "join") (f := .builtin "str.join") _ _ _ (.inl ⟨_, rfl⟩) (by intro _; exact ⟨_, by with_unfolding_all rfl⟩) | refine' Snd.meth (n := Str.ofString "get") (f := .builtin "dict.get") _ _ _ (.inl ⟨_, rfl⟩) (by intro _; exact ⟨_, by with_unfolding_all rfl⟩) | (apply Snd.callB; (focus (apply Snd.blt; (focus assumption); (focus (((with_reducible (repeat (first | exact Slot.hd | apply Slot.tl)))); done)); (focus ((with_reducible (repeat (first | exact At.hd | apply At.tl))); done)); (focus ((with_reducible (repeat (first | exact At.hd | apply At.tl))); done)))); rotate_left 2; (focus ((with_unfolding_all exact fun _ => rfl)))) | (apply Snd.callT; (focus (apply Snd.blt; (focus assumption); (focus (((with_reducible (repeat (first | exact Slot.hd | apply Slot.tl)))); done)); (focus ((with_reducible (repeat (first | exact At.hd | apply At.tl))); done)); (focus ((with_reducible (repeat (first | exact At.hd | apply At.tl))); done)))); rotate_left 2; (focus ((with_unfolding_all exact fun _ => rfl)))) | (apply Snd.callF; (focus assumption); (focus (apply Snd.glo; (focus assumption); (focus (((with_reducible (repeat (first | exact Slot.hd | apply Slot.tl)))); done)); (focus ((with_reducible (repeat (first | exact At.hd | apply At.tl))); done)))); (focus ((first | exact (Cf.Ok.hK (by assumption)).fHls | exact (Cf.Ok.hK (by assumption)).fHsv | exact (Cf.Ok.hK (by assumption)).fIter | exact (Cf.Ok.hK (by assumption)).fStrip | exact (Cf.Ok.hK (by assumption)).fCheck | exact (Cf.Ok.hK (by assumption)).fIseof | exact (Cf.Ok.hK (by assumption)).fTree | exact (Cf.Ok.hK (by assumption)).fWords | exact (Cf.Ok.hK (by assumption)).fSpelled | exact (Cf.Ok.hK (by assumption)).fLexer | exact (Cf.Ok.hK (by assumption)).fNumber | exact (Cf.Ok.hK (by assumption)).fPlay | exact (Cf.Ok.hK (by assumption)).fWorth | exact (Cf.Ok.hK (by assumption)).fRoads | exact (Cf.Ok.hK (by assumption)).fInit | exact (Cf.Ok.hK (by assumption)).fRead | exact (Cf.Ok.hK (by assumption)).fGet | exact (Cf.Ok.hK (by assumption)).fPush))); rotate_left 2; (focus ((with_unfolding_all exact fun _ => rfl)))) | refine' Snd.mkl _ | refine' Snd.mkt _ | exact SndA.nil | refine' SndA.cons _ _ (by (with_unfolding_all exact fun _ => rfl)) | exact AOk.nil | refine' AOk.cons _ (by (with_unfolding_all exact fun _ => rfl)))))
  case h =>
    have sz : ∀ {m : Nat}, m ≤ 2000 → m ≤ sizeLine := fun h => Nat.le_trans h (by decide)
    refine Exists.intro _ ⟨.inl rfl, ?_⟩
    refine forG_inv (fun ds l N' => ∃ pre suf o2 o3, xs = pre ++ suf ∧ ds = suf.map .int ∧ l = [some (.lst (xs.map .int)), some (.ob N.length), o2, o3, none, none, none] ∧ N' = N ++ [OD.lst (pre.map fun x => D.int (leafV x))]) ?_ ?_ _ _ _ ⟨[], xs, none, none, rfl, rfl, rfl, rfl⟩
    · rintro d ds l N' ⟨pre, suf, o2, o3, e, e2, rfl, rfl⟩ q hq
      cases suf with
      | nil => cases e2
      | cons x suf =>
        cases e2
        have hl : pre.length ≤ 100 := by rw [e, List.length_append] at h2; omega
        refine BinOk.modI (by decide) ⟨GetOk.append get_last, CmpOk.ltI (TruOk.bool ?_)⟩
        have fin : ∀ {o2 o3}, leafV x = leafV x → q [some (.lst (xs.map .int)), some (.ob N.length), o2, o3, none, none, none] ((N ++ [OD.lst (pre.map fun x => D.int (leafV x))]).set N.length (.lst ((pre.map fun x => D.int (leafV x)) ++ [.int (leafV x)]))) := fun _ => by
          rw [set_last]
          exact hq _ _ ⟨pre ++ [x], suf, _, _, by rw [e]; simp, rfl, rfl, by simp⟩
        refine cond_split (fun h => ?_) fun h => ?_
        · refine BinOk.addI (BinOk.fdivI (by decide) (by decide +kernel) (BinOk.modI (by decide) (BinOk.mulI ?_ (BinOk.addI (FnOk.append get_last (sz (by rw [List.length_map]; omega)) ?_)))))
          · exact IntMulOk.of_left (by decide)
          · have ev : leafV x = 9 + x.fmod 45 + 64 * (x.fdiv 45).fmod 6 := by unfold leafV; rw [if_pos (of_decide_eq_true h)]
            rw [← ev]; exact fin rfl
        · refine BinOk.addI (BinOk.fdivI (by decide) (by decide +kernel) (BinOk.modI (by decide) (BinOk.mulI ?_ (BinOk.addI (FnOk.append get_last (sz (by rw [List.length_map]; omega)) ?_)))))
          · exact IntMulOk.of_left (by decide)
          · have ev : leafV x = 10 + x.fmod 45 + 64 * (x.fdiv 45).fmod 6 := by unfold leafV; rw [if_neg (of_decide_eq_false h)]
            rw [← ev]; exact fin rfl
    · rintro l N' ⟨pre, suf, o2, o3, e, e2, rfl, rfl⟩
      have e3 : suf = [] := List.map_eq_nil_iff.mp e2.symm
      rw [e3, List.append_nil] at e
      subst e
      refine Exists.intro _ ⟨.inl rfl, ?_⟩
      refine forG_inv (fun ds l N' => ∃ pre suf d1 o2 o3 o4 o5 o6, xs = pre ++ suf ∧ ds = suf.map .int ∧ l = [some (.lst (xs.map .int)), some d1, o2, o3, o4, o5, o6] ∧ N' = N ++ [OD.lst (xs.map fun x => D.int (leafV x))] ∧
        SeqOk N' d1 ((pre.foldl stepT (xs.map fun x => .leaf (leafV x).toNat)).map dT) ∧ 0 < (pre.foldl stepT (xs.map fun x => Tr.leaf (leafV x).toNat)).length ∧ (pre.foldl stepT (xs.map fun x => Tr.leaf (leafV x).toNat)).length ≤ 100) ?_ ?_ _ _ _ ⟨[], xs, _, _, _, _, _, _, rfl, rfl, rfl, rfl, .inr ⟨N.length, rfl, ?_⟩, ?_, ?_⟩
      · rintro d ds l N' ⟨pre, suf, d1, o2, o3, o4, o5, o6, e, e2, rfl, rfl, S, l1, l2⟩ q hq
        cases suf with
        | nil => cases e2
        | cons x suf =>
          cases e2
          have hst : ∀ d1 o2 o3 o4 o5 o6, SeqOk (N ++ [OD.lst (xs.map fun x => D.int (leafV x))]) d1 ((stepT (pre.foldl stepT (xs.map fun x => .leaf (leafV x).toNat)) x).map dT) → 0 < (stepT (pre.foldl stepT (xs.map fun x => Tr.leaf (leafV x).toNat)) x).length → (stepT (pre.foldl stepT (xs.map fun x => Tr.leaf (leafV x).toNat)) x).length ≤ 100 →
              q [some (.lst (xs.map .int)), some d1, o2, o3, o4, o5, o6] (N ++ [OD.lst (xs.map fun x => D.int (leafV x))]) := fun d1 o2 o3 o4 o5 o6 a b c => hq _ _ ⟨pre ++ [x], suf, d1, o2, o3, o4, o5, o6, by rw [e]; simp, rfl, rfl, rfl, by rw [List.foldl_append]; exact a, by rw [List.foldl_append]; exact b, by rw [List.foldl_append]; exact c⟩
          clear hq
          generalize pre.foldl stepT (xs.map fun x => .leaf (leafV x).toNat) = ts at S l1 l2 hst
          have el : ((ts.map dT).length : Int) = ts.length := by rw [List.length_map]
          have lt' : (ts.map dT).length ≤ sizeLine := by rw [List.length_map]; exact sz (by omega)
          refine FnOk.lenL S lt' (CmpOk.gtI (TruOk.bool ?_))
          rw [el]
          refine cond_split (fun h => ?_) fun h => ?_
          · have h : 1 < ts.length := by have := of_decide_eq_true h; omega
            obtain ⟨ea, la⟩ := at_lt (x := x) h
            have h7 := fmod_nn (x := x.fdiv 7) (m := 2) (by decide)
            have h3 := fmod_nn (x := x.fdiv 3) (m := 2) (by decide)
            have eb : (atOf x ts : Int) + 2 + (x.fdiv 7).fmod 2 = (behOf x ts : Nat) := by unfold behOf; omega
            refine FnOk.lenL S lt' (BinOk.subI (BinOk.modI (by rw [el]; omega) ?_))
            rw [el, ← ea]
            refine BinOk.addI (BinOk.fdivI (by decide) (by decide +kernel) (BinOk.modI (by decide) (BinOk.addI ?_)))
            rw [eb]
            refine BinOk.fdivI (by decide) (by decide +kernel) (BinOk.modI (by decide) ?_)
            obtain ⟨gi, hgi⟩ := Int.eq_ofNat_of_zero_le h3.1
            have hg : gi < 2 := by omega
            have eg : ((x.fdiv 3).fmod 2 == 1) = (gi == 1) := by rw [hgi, Bool.eq_iff_iff, beq_iff_eq, beq_iff_eq]; omega
            rw [hgi]
            have hm := mid_len (x := x) h
            have hml : ((ts.drop (atOf x ts)).take (behOf x ts - atOf x ts)).length ≤ 3 := by obtain ⟨a, b, e | ⟨d, e⟩⟩ := hm <;> rw [e] <;> simp
            refine IdxOk.str (i := gi) hg (by decide +kernel) ⟨(show 1 ≤ sizeLine by decide), SlOk.ee S lt' (BinOk.addL (sz ?_) ?_)⟩
            · rw [← List.map_drop, ← List.map_take, List.length_map]; exact Nat.le_trans (Nat.add_le_add_left hml 1) (by decide)
            · have en : ∀ s : Str, s = ⟨(opS (gi == 1)).toArray⟩ → [D.str s] ++ ((ts.map dT).drop (atOf x ts)).take (behOf x ts - atOf x ts) = sD (opS (gi == 1)) :: ((ts.drop (atOf x ts)).take (behOf x ts - atOf x ts)).map dT := fun s hs => by
                rw [hs, ← List.map_drop, ← List.map_take]; rfl
              have fin : ∀ {d}, d = dT (nodeOf x ts) → ∀ o6, o6 = some d → sAsg 1 (eBin .Add (eBin .Add (eSl (eLoc 1) (eCst .none) (eLoc 4)) (eMkl (aCons (eLoc 6) aNil))) (eSl (eLoc 1) (eLoc 5) (eCst .none))) sNil (c.wN n) [some (.lst (xs.map .int)), some d1, some (.int x), o3, some (.int (atOf x ts)), some (.int (behOf x ts)), o6] (N ++ [OD.lst (xs.map fun x => D.int (leafV x))]) (fun l N => sNil (c.wN n) l N q q k) q k := fun hd o6 ho => by
                subst hd ho
                refine SlOk.ne S lt' ⟨(show 1 ≤ sizeLine by decide), BinOk.addL (sz ?_) (SlOk.en S lt' (BinOk.addL (sz ?_) ?_))⟩
                · rw [← List.map_take, List.length_map, List.length_take]; simp; omega
                · rw [← List.map_take, ← List.map_drop, List.length_append, List.length_map, List.length_map, List.length_take, List.length_drop]; simp; omega
                · have es : stepT ts x = ts.take (atOf x ts) ++ [nodeOf x ts] ++ ts.drop (behOf x ts) := if_pos h
                  refine hst _ _ _ _ _ _ (.inl ?_) ?_ ?_
                  · rw [es, ← List.map_take, ← List.map_drop]; simp
                  · rw [es, List.length_append, List.length_append]; simp only [List.length_cons, List.length_nil]; omega
                  · rw [es, List.length_append, List.length_append, List.length_take, List.length_drop]; simp; unfold behOf; omega
              have hitem : Txt.item (Str.ofString "<>") gi = ⟨(opS (gi == 1)).toArray⟩ := by
                rcases (show gi = 0 ∨ gi = 1 by omega) with rfl | rfl <;> decide +kernel
              refine BinOk.fdivI (by decide) (by decide +kernel) (BinOk.modI (by decide) (CmpOk.eqI (TruOk.bool (cond_split (fun h => ?_) fun h => ?_))))
              · have h5 : (x.fdiv 5).fmod 3 = 2 := by simpa using h
                refine ⟨(show 2 ≤ sizeLine by decide), fin ?_ _ rfl⟩
                rw [en _ hitem, s126]
                unfold nodeOf
                rw [if_pos h5, eg]
                show _ = D.lst [_, dT (mk3 _ _)]
                rw [mk3_D hm]
              · have h5 : ¬ (x.fdiv 5).fmod 3 = 2 := by simpa using h
                refine fin ?_ _ rfl
                rw [en _ hitem]
                unfold nodeOf
                rw [if_neg h5, eg]
                show _ = dT (mk3 _ _)
                rw [mk3_D hm]
          · have h : ¬ 1 < ts.length := by have := of_decide_eq_false h; omega
            have es : stepT ts x = ts := if_neg h
            exact hst _ _ _ _ _ _ (by rw [es]; exact S) (by rw [es]; exact l1) (by rw [es]; exact l2)
      · rintro l N' ⟨pre, suf, d1, o2, o3, o4, o5, o6, e, e2, rfl, rfl, S, l1, l2⟩
        have e3 : suf = [] := List.map_eq_nil_iff.mp e2.symm
        rw [e3, List.append_nil] at e
        subst e
        have g0 := List.getElem?_eq_getElem l1
        exact IdxOk.seq (i := 0) S (by rw [List.length_map]; exact sz (by omega)) (by rw [List.getElem?_map, g0]; rfl) (hk _ g0)
      · rw [get_last, List.foldl_nil, List.map_map]
        exact congrArg (fun l => some (OD.lst l)) (List.map_congr_left fun x _ => congrArg D.int (Int.toNat_of_nonneg (leafV_nn x)).symm)
      · simpa using h1
      · simpa using h2
end
end

noncomputable section
noncomputable def rep (c : Nat) (z : List Nat) (l : List Nat) : List Nat := l.flatMap fun k => if k = c then z else [k]
theorem rep_free (c : Nat) (z : List Nat) : ∀ l : List Nat, c ∉ l → rep c z l = l
  | [], _ => rfl
  | k :: r, h => by
    have h1 : ¬ k = c := fun e => h (e ▸ List.mem_cons_self ..)
    unfold rep
    rw [List.flatMap_cons, if_neg h1]
    exact congrArg (k :: ·) (rep_free c z r fun m => h (List.mem_cons_of_mem _ m))
theorem rep_join (c : Nat) (z : List Nat) : ∀ parts : List Str, (∀ p ∈ parts, c ∉ p.cps.toList) → rep c z (Str.join ⟨#[c]⟩ parts).cps.toList = (Str.join ⟨z.toArray⟩ parts).cps.toList
  | [], _ => rfl
  | [p], h => rep_free c z _ (h p (List.mem_singleton.mpr rfl))
  | p :: q :: r, h => by
    have ih := rep_join c z (q :: r) fun a ha => h a (List.mem_cons_of_mem _ ha)
    show rep c z (p ++ ⟨#[c]⟩ ++ Str.join ⟨#[c]⟩ (q :: r)).cps.toList = (p ++ ⟨z.toArray⟩ ++ Str.join ⟨z.toArray⟩ (q :: r)).cps.toList
    simp only [Str.cps_append, Array.toList_append]
    unfold rep at ih ⊢
    rw [List.flatMap_append, List.flatMap_append, ih]
    have e := rep_free c z _ (h p (List.mem_cons_self ..))
    unfold rep at e
    rw [e]
    simp
theorem replace_rep (x : Str) {y z : Str} {c : Nat} {l : List Nat} (hy : y = ⟨#[c]⟩) (hz : z = ⟨l.toArray⟩) : Txt.replace x y z = ⟨(rep c l x.cps.toList).toArray⟩ := by
  subst hy hz
  have : (Txt.replace x ⟨#[c]⟩ ⟨l.toArray⟩).cps.toList = rep c l x.cps.toList := by
    rw [StrLaws.replace_one, ← rep_join c l _ (StrLaws.split_free x c), StrLaws.join_split]
  rw [← this]
noncomputable def dbs (w : List Nat) : List Nat := rep 92 [92, 92] w
noncomputable def spellW (m : Nat) (w : List Nat) : List Nat := if m % 3 = 0 then dbs w else if m % 3 = 1 then 34 :: rep 34 [92, 34] (dbs w) ++ [34] else w.flatMap fun x => [92, x]
noncomputable def sepOf (m : Nat) : Nat := [32, 10, 9, 13].getD (m % 4) 0
noncomputable def spell : Nat → List (List Nat) → List Nat
  | _, [] => []
  | m, w :: r => spellW m w ++ sepOf m :: spell (m + 1) r
theorem spell_snoc : ∀ (l : List (List Nat)) (m : Nat) (w : List Nat), spell m (l ++ [w]) = spell m l ++ (spellW (m + l.length) w ++ [sepOf (m + l.length)])
  | [], m, w => by simp [spell]
  | v :: l, m, w => by
    show spellW m v ++ sepOf m :: spell (m + 1) (l ++ [w]) = (spellW m v ++ sepOf m :: spell (m + 1) l) ++ _
    rw [spell_snoc l (m + 1) w, List.length_cons, show m + 1 + l.length = m + (l.length + 1) by (first | lia | omega)]
    simp
theorem rep_len (c : Nat) {z : List Nat} (h : z.length ≤ 2) : ∀ l : List Nat, (rep c z l).length ≤ 2 * l.length
  | [] => by simp [rep]
  | k :: r => by
    have ih := rep_len c h r
    unfold rep at ih ⊢
    rw [List.flatMap_cons, List.length_append, List.length_cons]
    split
    · (first | lia | omega)
    · rw [List.length_singleton]; (first | lia | omega)
theorem esc_len : ∀ w : List Nat, (w.flatMap fun x => [92, x]).length = 2 * w.length
  | [] => rfl
  | k :: r => by rw [List.flatMap_cons, List.length_append, esc_len r, List.length_cons]; simp; (first | lia | omega)
theorem spellW_len {m : Nat} {w : List Nat} (h : w.length ≤ 100) : (spellW m w).length ≤ 402 := by
  have h1 := rep_len 92 (z := [92, 92]) (by decide) w
  have h2 := rep_len 34 (z := [92, 34]) (by decide) (dbs w)
  have h3 := esc_len w
  unfold spellW
  unfold dbs at h2 ⊢
  split
  · (first | lia | omega)
  · split
    · rw [List.length_append, List.length_cons, List.length_singleton]; (first | lia | omega)
    · (first | lia | omega)
theorem spell_len : ∀ (ws : List (List Nat)) (m : Nat), (∀ w ∈ ws, w.length ≤ 100) → (spell m ws).length ≤ 403 * ws.length
  | [], _, _ => by simp [spell]
  | w :: r, m, h => by
    have h1 := spellW_len (m := m) (h w (.head _))
    have h2 := spell_len r (m + 1) fun v hv => h v (.tail _ hv)
    show (spellW m w ++ sepOf m :: spell (m + 1) r).length ≤ _
    rw [List.length_append, List.length_cons, List.length_cons]
    (first | lia | omega)
@[reducible] noncomputable def P64 : Pm := ⟨scopeOf (stAt 64), [Str.ofString "words", Str.ofString "turn", Str.ofString "text", Str.ofString "place", Str.ofString "manner", Str.ofString "doubled"], [Str.ofString "range", Str.ofString "len"]⟩
theorem ok64 : P64.Ok := .of (by kernel_rfl) (by decide +kernel) (by decide +kernel) (by decide +kernel)
theorem pl64 : Plain (stAt 64) := ⟨by kernel_rfl, by kernel_rfl, by decide +kernel⟩
section
variable {c : Cf} {N : List OD} {k : Kt} {n : Nat}
theorem spelled_fn (O : c.Ok) (hn : c.n = n + 1) {ws : List (List Nat)} {m : Nat} (hw : ∀ w ∈ ws, w.length ≤ 100) (hl : ws.length ≤ 1000) (hk : k (sD (spell m ws)) N) : CallOk c 120 [.lst (ws.map sD), .int m] N k := by
  refine' enterX (P := P64) (m := 2) hn O.hK.fSpelled rfl ok64 pl64 rfl (by decide) ?b (by conv => lhs; whnf) ?s ?h
  case b => intro vs hv; intros; rcases vs with _ | ⟨a, _ | ⟨b, _ | _⟩⟩ <;> first | (simp at hv; done) | kernel_rfl
  case s =>
    have O := O.wN (n := n)
    refine' SndS.asg (by ((with_reducible (repeat (first | exact Slot.hd | apply Slot.tl))))) _ (by (with_unfolding_all exact fun _ => rfl)) (SndS.for1 (by ((with_reducible (repeat (first | exact Slot.hd | apply Slot.tl))))) _ (by (with_unfolding_all exact fun _ _ => rfl)) (SndS.asgP (by ((with_reducible (repeat (first | exact Slot.hd | apply Slot.tl))))) _ (by (with_unfolding_all exact fun _ => rfl)) (SndSp.asg (by ((with_reducible (repeat (first | exact Slot.hd | apply Slot.tl))))) (SndP.repl _ (by decide +kernel) (by decide +kernel) (by intro _; exact ⟨_, by with_unfolding_all rfl⟩)) (by (with_unfolding_all exact fun _ => rfl))
      (SndSp.iff _ (SndS.p _) (SndSp.iff _ (SndSp.asg (by ((with_reducible (repeat (first | exact Slot.hd | apply Slot.tl))))) (SndP.binL (SndP.bin _ (SndP.repl _ (by decide +kernel) (by decide +kernel) (by intro _; exact ⟨_, by with_unfolding_all rfl⟩))) _) (by (with_unfolding_all exact fun _ => rfl)) (SndS.p _)) (SndS.p (SndS.asg (by ((with_reducible (repeat (first | exact Slot.hd | apply Slot.tl))))) (Snd.bin _ (Snd.meth (n := Str.ofString "join") (f := .builtin "str.join") _ (SndA.cons (Snd.comp (CmpB.one (P' := ⟨_, [Str.ofString "sign"], []⟩) _ rfl (.of rfl (by decide +kernel) (by decide +kernel) (by decide +kernel)) (.of (by decide +kernel) rfl) _) (.of (by decide +kernel) rfl) (by (with_unfolding_all exact fun _ _ => rfl))) .nil (by (with_unfolding_all exact fun _ => rfl))) (AOk.cons AOk.nil (by (with_unfolding_all exact fun _ => rfl))) (.inl ⟨_, rfl⟩) (by intro _; exact ⟨_, by with_unfolding_all rfl⟩))) (by (with_unfolding_all exact fun _ => rfl)) _)) SndS.nil) _))) _)
    repeat (any_goals ((with_reducible first | exact SndS.nil | refine' SndS.ret _ | refine' SndS.asg (by ((with_reducible (repeat (first | exact Slot.hd | apply Slot.tl))))) _ (by (with_unfolding_all exact fun _ => rfl)) _ | refine' SndS.aug (by ((with_reducible (repeat (first | exact Slot.hd | apply Slot.tl))))) _ _ | refine' SndS.iff _ _ _ _ | refine' SndS.exp _ (by (with_unfolding_all exact fun _ => rfl)) _ | (refine' SndS.forE (by assumption) (by assumption) (by ((with_reducible (repeat (first | exact Slot.hd | apply Slot.tl))))) (by ((with_reducible (repeat (first | exact Slot.hd | apply Slot.tl))))) (by ((with_reducible (repeat (first | exact Slot.hd | apply Slot.tl))))) _ (by (with_unfolding_all exact fun _ => rfl)) (by (with_unfolding_all exact fun _ => rfl)) _ _) | refine' SndS.allB (fun _ _ => _) (by assumption) | refine' SndC.allB (fun _ _ => _) (by assumption) | refine' Snd.allB (fun _ _ => _) (by assumption) | refine' SndS.for1 (by ((with_reducible (repeat (first | exact Slot.hd | apply Slot.tl))))) _ (by (with_unfolding_all exact fun _ _ => rfl)) _ _ | refine' SndS.wh _ _ _ | refine' SndC.cmp _ _ (by with_unfolding_all rfl) | refine' SndC.nt _ | refine' SndC.or _ _ | refine' SndC.val _ (by (with_unfolding_all exact fun _ _ => rfl)) | exact Snd.cint | exact Snd.cstr | exact Snd.cnone | exact Snd.cbool | exact Snd.cflt | (apply Snd.loc; (focus (((with_reducible (repeat (first | exact Slot.hd | apply Slot.tl)))); done))) | (apply Snd.glo; (focus assumption); (focus (((with_reducible (repeat (first | exact Slot.hd | apply Slot.tl)))); done)); (focus ((with_reducible (repeat (first | exact At.hd | apply At.tl))); done))) | (apply Snd.blt; (focus assumption); (focus (((with_reducible (repeat (first | exact Slot.hd | apply Slot.tl)))); done)); (focus ((with_reducible (repeat (first | exact At.hd | apply At.tl))); done)); (focus ((with_reducible (repeat (first | exact At.hd | apply At.tl))); done))) | refine' Snd.bin _ _ | refine' Snd.cmp _ _ (by with_unfolding_all rfl) | refine' Snd.see _ _ _ | refine' Snd.sen _ _ | refine' Snd.sne _ _ | refine' Snd.idx _ _ (by (with_unfolding_all exact fun _ _ => rfl)) | refine' Snd.att _ (by (with_unfolding_all exact fun _ => rfl)) | refine' Snd.ite _ _ _ | refine' Snd.and _ _ | refine' Snd.and1 _ | refine' Snd.meth (n := Str.ofString "get_token") (f := .ref 77) _ _ _ (.inr (.inr (Cf.Ok.hK (by assumption)).fGet.keep)) (by intro _; exact ⟨_, by with_unfolding_all rfl⟩) | refine' Snd.meth (n := Str.ofString "push_token") (f := .ref 84) _ _ _ (.inr (.inr (Cf.Ok.hK (by assumption)).fPush.keep)) (by intro _; exact ⟨_, by with_unfolding_all rfl⟩) | refine' Snd.meth (n := Str.ofString "append") (f := .builtin "list.append") _ _ _ (.inl ⟨_, rfl⟩) (by intro _; exact ⟨_, by with_unfolding_all rfl⟩) | refine' Snd.meth (n := Str.ofString "count") (f := .builtin "str.count") _ _ _ (.inl ⟨_, rfl⟩) (by intro _; exact ⟨_, by with_unfolding_all rfl⟩) | refine' Snd.meth (n := Str.ofString "split") (f := .builtin "str.split") _ _ _ (.inl ⟨_, rfl⟩) (by intro _; exact ⟨_, by with_unfolding_all rfl⟩) | refine' Snd.meth (n := Str.ofString "join") (f := .builtin "str.join") _ _ _ (.inl ⟨_, rfl⟩) (by intro _; exact ⟨_, by with_unfolding_all rfl⟩) | refine' Snd.meth (n := Str.ofString "get") (f := .builtin "dict.get") _ _ _ (.inl ⟨_, rfl⟩) (by intro _; exact ⟨_, by with_unfolding_all rfl⟩) | (apply Snd.callB; (focus (apply Snd.blt; (focus assumption); (focus (((with_reducible (repeat (first | exact Slot.hd | apply Slot.tl)))); done)); (focus ((with_reducible (repeat (first | exact At.hd | apply At.tl))); done)); (focus ((with_reducible (repeat (first | exact At.hd | apply At.tl))); done)))); rotate_left 2; (focus ((with_unfolding_all exact fun _ => rfl)))) | (apply Snd.callT; (focus (apply Snd.blt; (focus assumption); (focus (((with_reducible (repeat (first | exact Slot.hd | apply Slot.tl)))); done)); (focus ((with_reducible (repeat (first | exact At.hd | apply At.tl))); done)); (focus ((with_reducible (repeat (first | exact At.hd | apply At.tl))); done)))); rotate_left 2; (focus ((with_unfolding_all exact fun _ => rfl)))) | (apply Snd.callF; (focus assumption); (focus (apply Snd.glo; (focus assumption); (focus (((with_reducible (repeat (first | exact Slot.hd | apply Slot.tl)))); done)); (focus ((with_reducible (repeat (first | exact At.hd | apply At.tl))); done)))); (focus ((first | exact (Cf.Ok.hK (by assumption)).fHls | exact (Cf.Ok.hK (by assumption)).fHsv | exact (Cf.Ok.hK (by assumption)).fIter | exact (Cf.Ok.hK (by assumption)).fStrip | exact (Cf.Ok.hK (by assumption)).fCheck | exact (Cf.Ok.hK (by assumption)).fIseof | exact (Cf.Ok.hK (by assumption)).fTree | exact (Cf.Ok.hK (by assumption)).fWords | exact (Cf.Ok.hK (by assumption)).fSpelled | exact (Cf.Ok.hK (by assumption)).fLexer | exact (Cf.Ok.hK (by assumption)).fNumber | exact (Cf.Ok.hK (by assumption)).fPlay | exact (Cf.Ok.hK (by assumption)).fWorth | exact (Cf.Ok.hK (by assumption)).fRoads | exact (Cf.Ok.hK (by assumption)).fInit | exact (Cf.Ok.hK (by assumption)).fRead | exact (Cf.Ok.hK (by assumption)).fGet | exact (Cf.Ok.hK (by assumption)).fPush))); rotate_left 2; (focus ((with_unfolding_all exact fun _ => rfl)))) | refine' Snd.mkl _ | refine' Snd.mkt _ | exact SndA.nil | refine' SndA.cons _ _ (by (with_unfolding_all exact fun _ => rfl)) | exact AOk.nil | refine' AOk.cons _ (by (with_unfolding_all exact fun _ => rfl)))))
  case h =>
    have sz : ∀ {m : Nat}, m ≤ 1000000 → m ≤ sizeLine := fun h => Nat.le_trans h (by decide)
    have lw : (ws.map sD).length ≤ sizeLine := by rw [List.length_map]; exact sz (by (first | lia | omega))
    refine FnOk.lenL (.inl rfl) lw (FnOk.range1 (Exists.intro _ ⟨.inr (.inl ⟨ws.length, 0, congrArg (D.rng 0) (by rw [List.length_map]; (first | lia | omega)), by decide, by (first | lia | omega), rfl⟩), ?_⟩))
    refine forG_inv (fun ds l N' => ∃ i o3 o4 o5, i ≤ ws.length ∧ ds = ((List.range ws.length).map fun (i : Nat) => D.int (0 + i)).drop i ∧ l = [some (.lst (ws.map sD)), some (.int m), some (sD (spell m (ws.take i))), o3, o4, o5] ∧ N' = N) ?_ ?_ _ _ _ ⟨0, none, none, none, Nat.zero_le _, rfl, rfl, rfl⟩
    · rintro d ds l N' ⟨i, o3, o4, o5, hi, e, rfl, rfl⟩ q hq
      have hi' : i < ws.length := by
        have := congrArg List.length e
        simp at this; (first | lia | omega)
      rw [List.drop_eq_getElem_cons (by simpa using hi')] at e
      obtain ⟨e1, e2⟩ := List.cons.inj e
      have e1 : d = .int (i : Nat) := by rw [e1]; simp
      subst e1
      have hg : ws[i]? = some ws[i] := List.getElem?_eq_getElem hi'
      generalize ws[i] = w at hg
      have hw1 : w.length ≤ 100 := hw w (List.mem_of_getElem? hg)
      have hth : (ws.map sD)[i]? = some (sD w) := by rw [List.getElem?_map, hg]; rfl
      have htk : spell m (ws.take (i + 1)) = spell m (ws.take i) ++ (spellW (m + i) w ++ [sepOf (m + i)]) := by
        rw [List.take_succ, hg]
        show spell m (ws.take i ++ [w]) = _
        rw [spell_snoc, List.length_take, Nat.min_eq_left hi]
      have hS : (spell m (ws.take i)).length ≤ 403000 := by
        have h1 := spell_len (ws.take i) m fun v hv => hw v (List.mem_of_mem_take hv)
        rw [List.length_take] at h1; (first | lia | omega)
      have hsw := spellW_len (m := m + i) hw1
      have esum : ((m : Int) + (i : Nat)) = ((m + i : Nat) : Int) := rfl
      have hd := rep_len 92 (z := [92, 92]) (by decide) w
      have fin : ∀ (t : List Nat) (o4 o5 : Option D), t = spell m (ws.take i) ++ spellW (m + i) w → sAsg 2 (eBin .Add (eLoc 2) (eIdx (eCst (.str (Str.ofString " \n\t\x0d"))) (eBin .Mod (eBin .Add (eLoc 1) (eLoc 3)) (eCst (.int 4))))) sNil (c.wN n)
          [some (.lst (ws.map sD)), some (.int m), some (sD t), some (.int (i : Nat)), o4, o5] N' q q k := fun t o4 o5 ht => by
        refine BinOk.addI (BinOk.modI (by decide) ?_)
        rw [esum, show ((m + i : Nat) : Int).fmod 4 = (((m + i) % 4 : Nat) : Int) from by rw [Int.fmod_eq_emod_of_nonneg _ (by decide)]; rfl]
        have hm4 : (m + i) % 4 < 4 := Nat.mod_lt _ (by decide)
        refine IdxOk.str (i := (m + i) % 4) hm4 (by decide +kernel) (BinOk.addS ?_ ?_)
        · show t.toArray.size + _ ≤ _
          rw [List.size_toArray, ht, List.length_append]
          exact sz (show _ + 1 ≤ _ by (first | lia | omega))
        · have es : Txt.item (Str.ofString " \n\t\x0d") (((m + i) % 4 : Nat) : Int) = ⟨[sepOf (m + i)].toArray⟩ := by
            unfold sepOf
            rcases (show (m + i) % 4 = 0 ∨ (m + i) % 4 = 1 ∨ (m + i) % 4 = 2 ∨ (m + i) % 4 = 3 by (first | lia | omega)) with h | h | h | h <;> rw [h] <;> decide +kernel
          rw [es, sD_add, ht, List.append_assoc, ← htk]
          exact hq _ _ ⟨i + 1, _, _, _, hi', e2, rfl, rfl⟩
      clear hq
      refine BinOk.addI (BinOk.modI (by decide) ?_)
      rw [esum, show ((m + i : Nat) : Int).fmod 3 = (((m + i) % 3 : Nat) : Int) from by rw [Int.fmod_eq_emod_of_nonneg _ (by decide)]; rfl]
      refine IdxOk.seq (i := i) (.inl rfl) lw hth (Exists.intro _ ⟨rfl, ?_, ?_⟩)
      · show w.toArray.size ≤ _; rw [List.size_toArray]; (first | lia | omega)
      rw [replace_rep (c := 92) (l := [92, 92]) ⟨w.toArray⟩ (by decide +kernel) (by decide +kernel)]
      refine CmpOk.eqI (TruOk.bool (cond_split (fun h => ?_) fun h => ?_))
      · have h : (m + i) % 3 = 0 := by have : (((m + i) % 3 : Nat) : Int) = 0 := by simpa using h
                                       (first | lia | omega)
        refine BinOk.addS ?_ ?_
        · show (spell m (ws.take i)).toArray.size + (rep 92 [92, 92] w).toArray.size ≤ _
          rw [List.size_toArray, List.size_toArray]; exact sz (by (first | lia | omega))
        · rw [sD_add]
          exact fin _ _ _ (by unfold spellW; rw [if_pos h]; rfl)
      · have h0 : ¬ (m + i) % 3 = 0 := fun e => by rw [e] at h; simp at h
        refine CmpOk.eqI (TruOk.bool (cond_split (fun h => ?_) fun h => ?_))
        · have h1 : (m + i) % 3 = 1 := by have : (((m + i) % 3 : Nat) : Int) = 1 := by simpa using h
                                          (first | lia | omega)
          have hd2 := rep_len 34 (z := [92, 34]) (by decide) (rep 92 [92, 92] w)
          have e34 : Str.ofString "\"" = ⟨[34].toArray⟩ := by decide +kernel
          refine BinOk.addS ?_ ?_
          · show (spell m (ws.take i)).toArray.size + 1 ≤ _
            rw [List.size_toArray]; exact sz (by (first | lia | omega))
          rw [e34, sD_add]
          refine Exists.intro _ ⟨rfl, ?_, ?_⟩
          · show (rep 92 [92, 92] w).toArray.size ≤ _; rw [List.size_toArray]; (first | lia | omega)
          rw [replace_rep (c := 34) (l := [92, 34]) ⟨(rep 92 [92, 92] w).toArray⟩ rfl (by decide +kernel)]
          refine BinOk.addS ?_ ?_
          · show (spell m (ws.take i) ++ [34]).toArray.size + (rep 34 [92, 34] (rep 92 [92, 92] w)).toArray.size ≤ _
            rw [List.size_toArray, List.size_toArray, List.length_append]; exact sz (show _ + 1 + _ ≤ _ by (first | lia | omega))
          rw [sD_add]
          refine BinOk.addS ?_ ?_
          · show (spell m (ws.take i) ++ [34] ++ rep 34 [92, 34] (rep 92 [92, 92] w)).toArray.size + 1 ≤ _
            rw [List.size_toArray, List.length_append, List.length_append]; exact sz (show _ + 1 + _ + 1 ≤ _ by (first | lia | omega))
          rw [sD_add]
          exact fin _ _ _ (by unfold spellW dbs; rw [if_neg h0, if_pos h1]; simp)
        · have h1 : ¬ (m + i) % 3 = 1 := fun e => by rw [e] at h; simp at h
          have e92 : Str.ofString "\\" = ⟨[92].toArray⟩ := by decide +kernel
          have ej : Txt.join (Str.ofString "") (w.map fun a => (⟨[92, a].toArray⟩ : Str)) = ⟨(w.flatMap fun x => [92, x]).toArray⟩ := by
            have := glued_empty (w.map fun a => [92, a])
            rw [List.map_map] at this
            rw [List.flatMap_def]
            exact this
          refine ⟨GetOk.join, IdxOk.seq (i := i) (.inl rfl) lw hth (Exists.intro _ ⟨.inr (.inr ⟨_, rfl, rfl⟩), ?_⟩)⟩
          refine compG_one (f := fun a => D.str ⟨#[a]⟩) (g := fun a => sD [92, a]) w [] (fun a _ q' hq' => BinOk.addS (sz (show 1 + 1 ≤ _ by decide)) ?_) (by rw [List.length_nil]; (first | lia | omega)) ?_
          · rw [e92, show (⟨#[a]⟩ : Str) = ⟨[a].toArray⟩ from rfl, sD_add]; exact hq'
          · refine FnOk.join (ys := w.map fun a => (⟨[92, a].toArray⟩ : Str)) (.inl (by rw [List.nil_append, List.map_map]; rfl)) (by decide +kernel) ?_ (BinOk.addS ?_ ?_)
            · have := sum_le (w.map fun a => (⟨[92, a].toArray⟩ : Str)) 2 fun y hy => by obtain ⟨a, _, rfl⟩ := List.mem_map.mp hy; exact Nat.le_refl 2
              rw [List.length_map] at this ⊢
              (first | lia | omega)
            · show (spell m (ws.take i)).toArray.size + (Txt.join (Str.ofString "") _).cps.size ≤ _
              rw [ej]
              show _ + (w.flatMap fun x => [92, x]).toArray.size ≤ _
              rw [List.size_toArray, List.size_toArray, esc_len]; exact sz (by (first | lia | omega))
            · rw [ej, sD_add]
              exact fin _ _ _ (by unfold spellW; rw [if_neg h0, if_neg h1])
    · rintro l N' ⟨i, o3, o4, o5, hi, e, rfl, rfl⟩
      have : i = ws.length := by
        have := congrArg List.length e
        simp at this; (first | lia | omega)
      subst this
      rw [List.take_length]; exact hk
end
end

noncomputable section
@[reducible] noncomputable def P1 : Pm := ⟨scopeOf (stAt 1), [Str.ofString "r", Str.ofString "g", Str.ofString "b", Str.ofString "maxc", Str.ofString "minc", Str.ofString "sumc", Str.ofString "rangec", Str.ofString "l", Str.ofString "s", Str.ofString "rc", Str.ofString "gc", Str.ofString "bc", Str.ofString "h"], [Str.ofString "max", Str.ofString "min"]⟩
theorem ok1 : P1.Ok := .of (by kernel_rfl) (by decide +kernel) (by decide +kernel) (by decide +kernel)
theorem pl1 : Plain (stAt 1) := ⟨by kernel_rfl, by kernel_rfl, by decide +kernel⟩
@[reducible] noncomputable def P2 : Pm := ⟨scopeOf (stAt 2), [Str.ofString "r", Str.ofString "g", Str.ofString "b", Str.ofString "maxc", Str.ofString "minc", Str.ofString "rangec", Str.ofString "v", Str.ofString "s", Str.ofString "rc", Str.ofString "gc", Str.ofString "bc", Str.ofString "h"], [Str.ofString "max", Str.ofString "min"]⟩
theorem ok2 : P2.Ok := .of (by kernel_rfl) (by decide +kernel) (by decide +kernel) (by decide +kernel)
theorem pl2 : Plain (stAt 2) := ⟨by kernel_rfl, by kernel_rfl, by decide +kernel⟩
section
variable {c : Cf} {N : List OD} {k : Kt} {n : Nat}
theorem hls_fn (O : c.Ok) (hn : c.n = n + 1) {a b d : Nat} (ha : a ≤ 64) (hb : b ≤ 64) (hd : d ≤ 64) (hk : ∀ h s, k (.tup [h, .flt (Float64.div (fl (max (max a b) d + min (min a b) d)) (fl 128)), s]) N) : CallOk c 21 [.flt (fl a), .flt (fl b), .flt (fl d)] N k := by
  refine' enterX (P := P1) (m := 3) hn O.hK.fHls rfl ok1 pl1 rfl (by decide) ?b (by conv => lhs; whnf) ?s ?h
  case b => intro vs hv; intros; rcases vs with _ | ⟨a, _ | ⟨b, _ | ⟨e, _ | _⟩⟩⟩ <;> first | (simp at hv; done) | kernel_rfl
  case s =>
    have O := O.wN (n := n)
    repeat (any_goals ((with_reducible first | exact SndS.nil | refine' SndS.ret _ | refine' SndS.asg (by ((with_reducible (repeat (first | exact Slot.hd | apply Slot.tl))))) _ (by (with_unfolding_all exact fun _ => rfl)) _ | refine' SndS.aug (by ((with_reducible (repeat (first | exact Slot.hd | apply Slot.tl))))) _ _ | refine' SndS.iff _ _ _ _ | refine' SndS.exp _ (by (with_unfolding_all exact fun _ => rfl)) _ | (refine' SndS.forE (by assumption) (by assumption) (by ((with_reducible (repeat (first | exact Slot.hd | apply Slot.tl))))) (by ((with_reducible (repeat (first | exact Slot.hd | apply Slot.tl))))) (by ((with_reducible (repeat (first | exact Slot.hd | apply Slot.tl))))) _ (by (with_unfolding_all exact fun _ => rfl)) (by (with_unfolding_all exact fun _ => rfl)) _ _) | refine' SndS.allB (fun _ _ => _) (by assumption) | refine' SndC.allB (fun _ _ => _) (by assumption) | refine' Snd.allB (fun _ _ => _) (by assumption) | refine' SndS.for1 (by ((with_reducible (repeat (first | exact Slot.hd | apply Slot.tl))))) _ (by (with_unfolding_all exact fun _ _ => rfl)) _ _ | refine' SndS.wh _ _ _ | refine' SndC.cmp _ _ (by with_unfolding_all rfl) | refine' SndC.nt _ | refine' SndC.or _ _ | refine' SndC.val _ (by (with_unfolding_all exact fun _ _ => rfl)) | exact Snd.cint | exact Snd.cstr | exact Snd.cnone | exact Snd.cbool | exact Snd.cflt | (apply Snd.loc; (focus (((with_reducible (repeat (first | exact Slot.hd | apply Slot.tl)))); done))) | (apply Snd.glo; (focus assumption); (focus (((with_reducible (repeat (first | exact Slot.hd | apply Slot.tl)))); done)); (focus ((with_reducible (repeat (first | exact At.hd | apply At.tl))); done))) | (apply Snd.blt; (focus assumption); (focus (((with_reducible (repeat (first | exact Slot.hd | apply Slot.tl)))); done)); (focus ((with_reducible (repeat (first | exact At.hd | apply At.tl))); done)); (focus ((with_reducible (repeat (first | exact At.hd | apply At.tl))); done))) | refine' Snd.bin _ _ | refine' Snd.cmp _ _ (by with_unfolding_all rfl) | refine' Snd.see _ _ _ | refine' Snd.sen _ _ | refine' Snd.sne _ _ | refine' Snd.idx _ _ (by (with_unfolding_all exact fun _ _ => rfl)) | refine' Snd.att _ (by (with_unfolding_all exact fun _ => rfl)) | refine' Snd.ite _ _ _ | refine' Snd.and _ _ | refine' Snd.and1 _ | refine' Snd.meth (n := Str.ofString "get_token") (f := .ref 77) _ _ _ (.inr (.inr (Cf.Ok.hK (by assumption)).fGet.keep)) (by intro _; exact ⟨_, by with_unfolding_all rfl⟩) | refine' Snd.meth (n := Str.ofString "push_token") (f := .ref 84) _ _ _ (.inr (.inr (Cf.Ok.hK (by assumption)).fPush.keep)) (by intro _; exact ⟨_, by with_unfolding_all rfl⟩) | refine' Snd.meth (n := Str.ofString "append") (f := .builtin "list.append") _ _ _ (.inl ⟨_, rfl⟩) (by intro _; exact ⟨_, by with_unfolding_all rfl⟩) | refine' Snd.meth (n := Str.ofString "count") (f := .builtin "str.count") _ _ _ (.inl ⟨_, rfl⟩) (by intro _; exact ⟨_, by with_unfolding_all rfl⟩) | refine' Snd.meth (n := Str.ofString "split") (f := .builtin "str.split") _ _ _ (.inl ⟨_, rfl⟩) (by intro _; exact ⟨_, by with_unfolding_all rfl⟩) | refine' Snd.meth (n := Str.ofString "join") (f := .builtin "str.join") _ _ _ (.inl ⟨_, rfl⟩) (by intro _; exact ⟨_, by with_unfolding_all rfl⟩) | refine' Snd.meth (n := Str.ofString "get") (f := .builtin "dict.get") _ _ _ (.inl ⟨_, rfl⟩) (by intro _; exact ⟨_, by with_unfolding_all rfl⟩) | (apply Snd.callB; (focus (apply Snd.blt; (focus assumption); (focus (((with_reducible (repeat (first | exact Slot.hd | apply Slot.tl)))); done)); (focus ((with_reducible (repeat (first | exact At.hd | apply At.tl))); done)); (focus ((with_reducible (repeat (first | exact At.hd | apply At.tl))); done)))); rotate_left 2; (focus ((with_unfolding_all exact fun _ => rfl)))) | (apply Snd.callT; (focus (apply Snd.blt; (focus assumption); (focus (((with_reducible (repeat (first | exact Slot.hd | apply Slot.tl)))); done)); (focus ((with_reducible (repeat (first | exact At.hd | apply At.tl))); done)); (focus ((with_reducible (repeat (first | exact At.hd | apply At.tl))); done)))); rotate_left 2; (focus ((with_unfolding_all exact fun _ => rfl)))) | (apply Snd.callF; (focus assumption); (focus (apply Snd.glo; (focus assumption); (focus (((with_reducible (repeat (first | exact Slot.hd | apply Slot.tl)))); done)); (focus ((with_reducible (repeat (first | exact At.hd | apply At.tl))); done)))); (focus ((first | exact (Cf.Ok.hK (by assumption)).fHls | exact (Cf.Ok.hK (by assumption)).fHsv | exact (Cf.Ok.hK (by assumption)).fIter | exact (Cf.Ok.hK (by assumption)).fStrip | exact (Cf.Ok.hK (by assumption)).fCheck | exact (Cf.Ok.hK (by assumption)).fIseof | exact (Cf.Ok.hK (by assumption)).fTree | exact (Cf.Ok.hK (by assumption)).fWords | exact (Cf.Ok.hK (by assumption)).fSpelled | exact (Cf.Ok.hK (by assumption)).fLexer | exact (Cf.Ok.hK (by assumption)).fNumber | exact (Cf.Ok.hK (by assumption)).fPlay | exact (Cf.Ok.hK (by assumption)).fWorth | exact (Cf.Ok.hK (by assumption)).fRoads | exact (Cf.Ok.hK (by assumption)).fInit | exact (Cf.Ok.hK (by assumption)).fRead | exact (Cf.Ok.hK (by assumption)).fGet | exact (Cf.Ok.hK (by assumption)).fPush))); rotate_left 2; (focus ((with_unfolding_all exact fun _ => rfl)))) | refine' Snd.mkl _ | refine' Snd.mkt _ | exact SndA.nil | refine' SndA.cons _ _ (by (with_unfolding_all exact fun _ => rfl)) | exact AOk.nil | refine' AOk.cons _ (by (with_unfolding_all exact fun _ => rfl)))))
  case h =>
    refine FnOk.max3 (by (first | lia | omega)) (by (first | lia | omega)) (by (first | lia | omega)) (FnOk.min3 (by (first | lia | omega)) (by (first | lia | omega)) (by (first | lia | omega)) ?_)
    have hle : min (min a b) d ≤ max (max a b) d := by (first | lia | omega)
    have hM : max (max a b) d ≤ 64 := by (first | lia | omega)
    generalize max (max a b) d = M at *
    generalize min (min a b) d = m at *
    have e2 : (4611686018427387904 : UInt64) = fl 128 := by decide +kernel
    have fin : ∀ {l : Loc} {i : Nat} {v w s : UInt64}, l[12]? = some (some (.flt v)) → l[7]? = some (some (.flt w)) → l[8]? = some (some (.flt s)) → w = Float64.div (fl (M + m)) (fl 128) → sAsg 12 (eBin .Mod (eBin .Div (eLoc 12) (eCst (.flt 4618441417868443648))) (eCst (.flt 4607182418800017408))) (sRet (eMkt (aCons (eLoc 12) (aCons (eLoc 7) (aCons (eLoc 8) aNil))))) (c.wN n) l N (fun _ N => k .none N) (fun _ N => k .none N) k := fun {l i v w s} h1 h2 h3 hw => by
      subst hw
      show locV l[12]? _
      rw [h1]
      refine BinOk.divF (by decide +kernel) (BinOk.modF (by decide +kernel) ?_)
      generalize (Float64.divmod (Float64.div v 4618441417868443648) 4607182418800017408).2 = h
      show locV (l.set 12 (some (.flt h)))[12]? _
      rw [List.getElem?_set_self (List.getElem?_eq_some_iff.mp h1).1]
      show locV (l.set 12 (some (.flt h)))[7]? _
      rw [List.getElem?_set_ne (by decide), h2]
      show locV (l.set 12 (some (.flt h)))[8]? _
      rw [List.getElem?_set_ne (by decide), h3]
      exact ⟨(show 3 ≤ sizeLine by decide), hk _ _⟩
    refine BinOk.addF ?_
    rw [fl_add (by (first | lia | omega))]
    refine BinOk.subF ?_
    rw [fl_sub hle (by (first | lia | omega))]
    refine BinOk.divF (by decide +kernel) ?_
    rw [e2]
    refine CmpOk.eqF (TruOk.bool ?_)
    rw [fl_eq (by (first | lia | omega)) (by (first | lia | omega))]
    refine cond_split (fun h => ⟨(show 3 ≤ sizeLine by decide), hk _ _⟩) fun h => ?_
    have hne : m ≠ M := of_decide_eq_false h
    have hz : ¬ Float64.isZero (fl (M - m)) = true := fl_isZero (by (first | lia | omega)) (by (first | lia | omega))
    clear h
    have tail : ∀ s : UInt64, sAsg 9 (eBin .Div (eBin .Sub (eLoc 3) (eLoc 0)) (eLoc 6)) (sAsg 10 (eBin .Div (eBin .Sub (eLoc 3) (eLoc 1)) (eLoc 6)) (sAsg 11 (eBin .Div (eBin .Sub (eLoc 3) (eLoc 2)) (eLoc 6))
        (sIf (tVal (eCmp .Eq (eLoc 0) (eLoc 3))) (sAsg 12 (eBin .Sub (eLoc 11) (eLoc 10)) sNil) (sIf (tVal (eCmp .Eq (eLoc 1) (eLoc 3))) (sAsg 12 (eBin .Sub (eBin .Add (eCst (.flt (fl 128))) (eLoc 9)) (eLoc 11)) sNil) (sAsg 12 (eBin .Sub (eBin .Add (eCst (.flt 4616189618054758400)) (eLoc 10)) (eLoc 9)) sNil) sNil)
          (sAsg 12 (eBin .Mod (eBin .Div (eLoc 12) (eCst (.flt 4618441417868443648))) (eCst (.flt 4607182418800017408))) (sRet (eMkt (aCons (eLoc 12) (aCons (eLoc 7) (aCons (eLoc 8) aNil))))))))) (c.wN n)
        [some (.flt (fl a)), some (.flt (fl b)), some (.flt (fl d)), some (.flt (fl M)), some (.flt (fl m)), some (.flt (fl (M + m))), some (.flt (fl (M - m))), some (.flt (Float64.div (fl (M + m)) (fl 128))), some (.flt s), none, none, none, none] N (fun _ N => k .none N) (fun _ N => k .none N) k := fun s =>
      BinOk.subF (BinOk.divF hz (BinOk.subF (BinOk.divF hz (BinOk.subF (BinOk.divF hz (CmpOk.eqF (TruOk.bool (cond_split (fun _ => BinOk.subF (fin (i := 0) rfl rfl rfl rfl)) fun _ => CmpOk.eqF (TruOk.bool (cond_split (fun _ => BinOk.addF (BinOk.subF (fin (i := 0) rfl rfl rfl rfl))) fun _ => BinOk.addF (BinOk.subF (fin (i := 0) rfl rfl rfl rfl))))))))))))
    refine CmpOk.leF (TruOk.bool (cond_split (fun h => ?_) fun h => ?_))
    · exact BinOk.divF (fl_isZero (by (first | lia | omega)) (by (first | lia | omega))) (tail _)
    · refine BinOk.subF ?_
      rw [fl_sub (by (first | lia | omega)) (by (first | lia | omega))]
      refine BinOk.subF ?_
      rw [fl_sub (by (first | lia | omega)) (by (first | lia | omega))]
      exact BinOk.divF (fl_isZero (by (first | lia | omega)) (by (first | lia | omega))) (tail _)
theorem hsv_fn (O : c.Ok) (hn : c.n = n + 1) {a b d : Nat} (ha : a ≤ 64) (hb : b ≤ 64) (hd : d ≤ 64) (hk : ∀ h v, k (.tup [h, .flt (if max (max a b) d = min (min a b) d then 0 else Float64.div (fl (max (max a b) d - min (min a b) d)) (fl (max (max a b) d))), v]) N) : CallOk c 28 [.flt (fl a), .flt (fl b), .flt (fl d)] N k := by
  refine' enterX (P := P2) (m := 3) hn O.hK.fHsv rfl ok2 pl2 rfl (by decide) ?b (by conv => lhs; whnf) ?s ?h
  case b => intro vs hv; intros; rcases vs with _ | ⟨a, _ | ⟨b, _ | ⟨e, _ | _⟩⟩⟩ <;> first | (simp at hv; done) | kernel_rfl
  case s =>
    have O := O.wN (n := n)
    repeat (any_goals ((with_reducible first | exact SndS.nil | refine' SndS.ret _ | refine' SndS.asg (by ((with_reducible (repeat (first | exact Slot.hd | apply Slot.tl))))) _ (by (with_unfolding_all exact fun _ => rfl)) _ | refine' SndS.aug (by ((with_reducible (repeat (first | exact Slot.hd | apply Slot.tl))))) _ _ | refine' SndS.iff _ _ _ _ | refine' SndS.exp _ (by (with_unfolding_all exact fun _ => rfl)) _ | (refine' SndS.forE (by assumption) (by assumption) (by ((with_reducible (repeat (first | exact Slot.hd | apply Slot.tl))))) (by ((with_reducible (repeat (first | exact Slot.hd | apply Slot.tl))))) (by ((with_reducible (repeat (first | exact Slot.hd | apply Slot.tl))))) _ (by (with_unfolding_all exact fun _ => rfl)) (by (with_unfolding_all exact fun _ => rfl)) _ _) | refine' SndS.allB (fun _ _ => _) (by assumption) | refine' SndC.allB (fun _ _ => _) (by assumption) | refine' Snd.allB (fun _ _ => _) (by assumption) | refine' SndS.for1 (by ((with_reducible (repeat (first | exact Slot.hd | apply Slot.tl))))) _ (by (with_unfolding_all exact fun _ _ => rfl)) _ _ | refine' SndS.wh _ _ _ | refine' SndC.cmp _ _ (by with_unfolding_all rfl) | refine' SndC.nt _ | refine' SndC.or _ _ | refine' SndC.val _ (by (with_unfolding_all exact fun _ _ => rfl)) | exact Snd.cint | exact Snd.cstr | exact Snd.cnone | exact Snd.cbool | exact Snd.cflt | (apply Snd.loc; (focus (((with_reducible (repeat (first | exact Slot.hd | apply Slot.tl)))); done))) | (apply Snd.glo; (focus assumption); (focus (((with_reducible (repeat (first | exact Slot.hd | apply Slot.tl)))); done)); (focus ((with_reducible (repeat (first | exact At.hd | apply At.tl))); done))) | (apply Snd.blt; (focus assumption); (focus (((with_reducible (repeat (first | exact Slot.hd | apply Slot.tl)))); done)); (focus ((with_reducible (repeat (first | exact At.hd | apply At.tl))); done)); (focus ((with_reducible (repeat (first | exact At.hd | apply At.tl))); done))) | refine' Snd.bin _ _ | refine' Snd.cmp _ _ (by with_unfolding_all rfl) | refine' Snd.see _ _ _ | refine' Snd.sen _ _ | refine' Snd.sne _ _ | refine' Snd.idx _ _ (by (with_unfolding_all exact fun _ _ => rfl)) | refine' Snd.att _ (by (with_unfolding_all exact fun _ => rfl)) | refine' Snd.ite _ _ _ | refine' Snd.and _ _ | refine' Snd.and1 _ | refine' Snd.meth (n := Str.ofString "get_token") (f := .ref 77) _ _ _ (.inr (.inr (Cf.Ok.hK (by assumption)).fGet.keep)) (by intro _; exact ⟨_, by with_unfolding_all rfl⟩) | refine' Snd.meth (n := Str.ofString "push_token") (f := .ref 84) _ _ _ (.inr (.inr (Cf.Ok.hK (by assumption)).fPush.keep)) (by intro _; exact ⟨_, by with_unfolding_all rfl⟩) | refine' Snd.meth (n := Str.ofString "append") (f := .builtin "list.append") _ _ _ (.inl ⟨_, rfl⟩) (by intro _; exact ⟨_, by with_unfolding_all rfl⟩) | refine' Snd.meth (n := Str.ofString "count") (f := .builtin "str.count") _ _ _ (.inl ⟨_, rfl⟩) (by intro _; exact ⟨_, by with_unfolding_all rfl⟩) | refine' Snd.meth (n := Str.ofString "split") (f := .builtin "str.split") _ _ _ (.inl ⟨_, rfl⟩) (by intro _; exact ⟨_, by with_unfolding_all rfl⟩) | refine' Snd.meth (n := Str.ofString "join") (f := .builtin "str.join") _ _ _ (.inl ⟨_, rfl⟩) (by intro _; exact ⟨_, by with_unfolding_all rfl⟩) | refine' Snd.meth (n := Str.ofString "get") (f := .builtin "dict.get") _ _ _ (.inl ⟨_, rfl⟩) (by intro _; exact ⟨_, by with_unfolding_all rfl⟩) | (apply Snd.callB; (focus (apply Snd.blt; (focus assumption); (focus (((with_reducible (repeat (first | exact Slot.hd | apply Slot.tl)))); done)); (focus ((with_reducible (repeat (first | exact At.hd | apply At.tl))); done)); (focus ((with_reducible (repeat (first | exact At.hd | apply At.tl))); done)))); rotate_left 2; (focus ((with_unfolding_all exact fun _ => rfl)))) | (apply Snd.callT; (focus (apply Snd.blt; (focus assumption); (focus (((with_reducible (repeat (first | exact Slot.hd | apply Slot.tl)))); done)); (focus ((with_reducible (repeat (first | exact At.hd | apply At.tl))); done)); (focus ((with_reducible (repeat (first | exact At.hd | apply At.tl))); done)))); rotate_left 2; (focus ((with_unfolding_all exact fun _ => rfl)))) | (apply Snd.callF; (focus assumption); (focus (apply Snd.glo; (focus assumption); (focus (((with_reducible (repeat (first | exact Slot.hd | apply Slot.tl)))); done)); (focus ((with_reducible (repeat (first | exact At.hd | apply At.tl))); done)))); (focus ((first | exact (Cf.Ok.hK (by assumption)).fHls | exact (Cf.Ok.hK (by assumption)).fHsv | exact (Cf.Ok.hK (by assumption)).fIter | exact (Cf.Ok.hK (by assumption)).fStrip | exact (Cf.Ok.hK (by assumption)).fCheck | exact (Cf.Ok.hK (by assumption)).fIseof | exact (Cf.Ok.hK (by assumption)).fTree | exact (Cf.Ok.hK (by assumption)).fWords | exact (Cf.Ok.hK (by assumption)).fSpelled | exact (Cf.Ok.hK (by assumption)).fLexer | exact (Cf.Ok.hK (by assumption)).fNumber | exact (Cf.Ok.hK (by assumption)).fPlay | exact (Cf.Ok.hK (by assumption)).fWorth | exact (Cf.Ok.hK (by assumption)).fRoads | exact (Cf.Ok.hK (by assumption)).fInit | exact (Cf.Ok.hK (by assumption)).fRead | exact (Cf.Ok.hK (by assumption)).fGet | exact (Cf.Ok.hK (by assumption)).fPush))); rotate_left 2; (focus ((with_unfolding_all exact fun _ => rfl)))) | refine' Snd.mkl _ | refine' Snd.mkt _ | exact SndA.nil | refine' SndA.cons _ _ (by (with_unfolding_all exact fun _ => rfl)) | exact AOk.nil | refine' AOk.cons _ (by (with_unfolding_all exact fun _ => rfl)))))
  case h =>
    refine FnOk.max3 (by (first | lia | omega)) (by (first | lia | omega)) (by (first | lia | omega)) (FnOk.min3 (by (first | lia | omega)) (by (first | lia | omega)) (by (first | lia | omega)) ?_)
    have hle : min (min a b) d ≤ max (max a b) d := by (first | lia | omega)
    have hM : max (max a b) d ≤ 64 := by (first | lia | omega)
    generalize max (max a b) d = M at *
    generalize min (min a b) d = m at *
    refine BinOk.subF ?_
    rw [fl_sub hle (by (first | lia | omega))]
    refine CmpOk.eqF (TruOk.bool ?_)
    rw [fl_eq (by (first | lia | omega)) (by (first | lia | omega))]
    refine cond_split (fun h => ?_) fun h => ?_
    · have he : M = m := (of_decide_eq_true h).symm
      rw [if_pos he] at hk
      exact ⟨(show 3 ≤ sizeLine by decide), hk _ _⟩
    have hne : m ≠ M := of_decide_eq_false h
    have hz : ¬ Float64.isZero (fl (M - m)) = true := fl_isZero (by (first | lia | omega)) (by (first | lia | omega))
    rw [if_neg (Ne.symm hne)] at hk
    clear h
    have h6 : ¬ Float64.isZero (4618441417868443648 : UInt64) = true := by decide +kernel
    have h1 : ¬ Float64.isZero (4607182418800017408 : UInt64) = true := by decide +kernel
    have s3 : 3 ≤ sizeLine := by decide
    exact BinOk.divF (fl_isZero (by (first | lia | omega)) (by (first | lia | omega))) (BinOk.subF (BinOk.divF hz (BinOk.subF (BinOk.divF hz (BinOk.subF (BinOk.divF hz (CmpOk.eqF (TruOk.bool (cond_split (fun _ => BinOk.subF (BinOk.divF h6 (BinOk.modF h1 ⟨s3, hk _ _⟩)))
      fun _ => CmpOk.eqF (TruOk.bool (cond_split (fun _ => BinOk.addF (BinOk.subF (BinOk.divF h6 (BinOk.modF h1 ⟨s3, hk _ _⟩)))) fun _ => BinOk.addF (BinOk.subF (BinOk.divF h6 (BinOk.modF h1 ⟨s3, hk _ _⟩))))))))))))))
end
end

noncomputable section
noncomputable def due (t : Tr) (lows highs : List Int) : List Int := ((roadsT t lows highs).filter (·.2)).map (·.1)
noncomputable def Lt (lows highs : List Int) : Prop := ∀ a ∈ lows, ∀ b ∈ highs, a < b
theorem Lt.iff {lows highs : List Int} : (lows.all fun a => highs.all fun b => decide (a < b)) = true ↔ Lt lows highs := by
  rw [List.all_eq_true]
  exact ⟨fun h a ha b hb => of_decide_eq_true (List.all_eq_true.mp (h a ha) b hb), fun h a ha => List.all_eq_true.mpr fun b hb => decide_eq_true (h a ha b hb)⟩
theorem Lt.swap {lows highs : List Int} : Lt (highs.map fun h => 64 - h) (lows.map fun l => 64 - l) ↔ Lt lows highs := by
  refine ⟨fun h a ha b hb => ?_, fun h a ha b hb => ?_⟩
  · have := h _ (List.mem_map_of_mem (f := fun h => 64 - h) hb) _ (List.mem_map_of_mem (f := fun l => 64 - l) ha); (first | lia | omega)
  · obtain ⟨x, hx, rfl⟩ := List.mem_map.mp ha
    obtain ⟨y, hy, rfl⟩ := List.mem_map.mp hb
    have := h y hy x hx; (first | lia | omega)
theorem Lt.left {lows highs l : List Int} (h : Lt (lows ++ l) highs) : Lt lows highs := fun a ha b hb => h a (List.mem_append_left _ ha) b hb
theorem Lt.right {lows highs l : List Int} (h : Lt lows (highs ++ l)) : Lt lows highs := fun a ha b hb => h a ha b (List.mem_append_left _ hb)
theorem due_two (g : Bool) (a b : Tr) (lo hi : List Int) : due (.two g a b) lo hi = due a lo hi ++ (if g then due b (lo ++ [worth a]) hi else due b lo (hi ++ [worth a])) := by
  cases g <;> simp [due, roadsT]
theorem due_three (g : Bool) (a b d : Tr) (lo hi : List Int) : due (.three g a b d) lo hi = due a lo hi ++ ((if g then due b (lo ++ [worth a]) hi else due b lo (hi ++ [worth a])) ++ (if g then due d (lo ++ [worth a, worth b]) hi else due d lo (hi ++ [worth a, worth b]))) := by
  cases g <;> simp [due, roadsT]
theorem due_nil : ∀ (t : Tr) {lows highs : List Int}, ¬ Lt lows highs → due t lows highs = []
  | .leaf m, lo, hi, h => by
    have : (lo.all fun a => hi.all fun b => decide (a < b)) = false := by rw [Bool.eq_false_iff]; exact fun e => h (Lt.iff.mp e)
    simp only [due, roadsT, this]; rfl
  | .neg a, lo, hi, h => due_nil a (fun e => h (Lt.swap.mp e))
  | .two g a b, lo, hi, h => by
    rw [due_two, due_nil a h, due_nil b (fun e => h e.left), due_nil b (fun e => h e.right)]; cases g <;> rfl
  | .three g a b d, lo, hi, h => by
    rw [due_three, due_nil a h, due_nil b (fun e => h e.left), due_nil b (fun e => h e.right), due_nil d (fun e => h e.left), due_nil d (fun e => h e.right)]; cases g <;> rfl
theorem worth_range : ∀ (t : Tr), WFt t → 9 ≤ worth t ∧ worth t ≤ 55
  | .leaf m, h => by
    have h1 := h.a; have h2 := h.b
    simp only [worth]; (first | lia | omega)
  | .neg a, h => by have := worth_range a h; simp only [worth]; (first | lia | omega)
  | .two g a b, h => by
    have h1 := worth_range a h.1; have h2 := worth_range b h.2
    cases g <;> simp only [worth, if_true, Bool.false_eq_true, if_false] <;> (first | lia | omega)
  | .three g a b d, h => by
    have h1 := worth_range a h.1; have h2 := worth_range b h.2.1; have h3 := worth_range d h.2.2
    cases g <;> simp only [worth, if_true, Bool.false_eq_true, if_false] <;> (first | lia | omega)
noncomputable def midI (f w g : Int) : Int := max f (min w g)
/-- the window and what it stands for -/
structure Win (f g : Int) (lows highs : List Int) : Prop where
  f0 : 0 ≤ f
  g1 : g ≤ 64
  lt : f < g
  fm : f ∈ lows
  fl : ∀ a ∈ lows, a ≤ f
  gm : g ∈ highs
  gl : ∀ b ∈ highs, g ≤ b
theorem Win.Lt {f g lows highs} (h : Win f g lows highs) : Mine.Lt lows highs := fun a ha b hb => Int.lt_of_le_of_lt (h.fl a ha) (Int.lt_of_lt_of_le h.lt (h.gl b hb))
theorem Win.swap {f g lows highs} (h : Win f g lows highs) : Win (64 - g) (64 - f) (highs.map fun h => 64 - h) (lows.map fun l => 64 - l) :=
  ⟨by have := h.g1; (first | lia | omega), by have := h.f0; (first | lia | omega), by have := h.lt; (first | lia | omega), List.mem_map_of_mem (f := fun h => 64 - h) h.gm, fun a ha => by obtain ⟨b, hb, rfl⟩ := List.mem_map.mp ha; have := h.gl b hb; (first | lia | omega),
    List.mem_map_of_mem (f := fun h => 64 - h) h.fm, fun a ha => by obtain ⟨b, hb, rfl⟩ := List.mem_map.mp ha; have := h.fl b hb; (first | lia | omega)⟩
theorem Win.up {f g w lows highs} (h : Win f g lows highs) (hw : w < g) : Win (midI f w g) g (lows ++ [w]) highs := by
  have h0 := h.f0; have h1 := h.lt
  have e : midI f w g = max f w := by unfold midI; (first | lia | omega)
  rw [e]
  refine ⟨by (first | lia | omega), h.g1, by (first | lia | omega), ?_, fun a ha => ?_, h.gm, h.gl⟩
  · rw [List.mem_append, List.mem_singleton]
    rcases Int.le_total f w with q | q
    · right; (first | lia | omega)
    · left; rw [show max f w = f by (first | lia | omega)]; exact h.fm
  · rcases List.mem_append.mp ha with m | m
    · have := h.fl a m; (first | lia | omega)
    · rw [List.mem_singleton.mp m]; (first | lia | omega)
theorem Win.down {f g w lows highs} (h : Win f g lows highs) (hw : f < w) : Win f (midI f w g) lows (highs ++ [w]) := by
  have h0 := h.g1; have h1 := h.lt
  have e : midI f w g = min w g := by unfold midI; (first | lia | omega)
  rw [e]
  refine ⟨h.f0, by (first | lia | omega), by (first | lia | omega), h.fm, h.fl, ?_, fun a ha => ?_⟩
  · rw [List.mem_append, List.mem_singleton]
    rcases Int.le_total g w with q | q
    · left; rw [show min w g = g by (first | lia | omega)]; exact h.gm
    · right; (first | lia | omega)
  · rcases List.mem_append.mp ha with m | m
    · have := h.gl a m; (first | lia | omega)
    · rw [List.mem_singleton.mp m]; (first | lia | omega)
end

noncomputable section
-- the lexer, as it reads
noncomputable def isW (c : Nat) : Bool := c == 10 || c == 9 || c == 13 || c == 32
noncomputable def run (p : Nat → Bool) : List Nat → List Nat × List Nat
  | [] => ([], [])
  | c :: r => if p c then ([], r) else if c = 92 then (match r with
    | [] => ([], [])
    | d :: r' => (d :: (run p r').1, (run p r').2)) else (c :: (run p r).1, (run p r).2)
noncomputable def isQ (c : Nat) : Bool := c == 34
noncomputable def tok : List Nat → List Nat × List Nat
  | [] => ([], [])
  | c :: r => if isW c then tok r else if c = 34 then run isQ r else run isW (c :: r)
noncomputable def Rd : List Nat → List (List Nat) → Prop
  | cs, [] => tok cs = ([], [])
  | cs, w :: ws => (tok cs).1 = w ∧ Rd (tok cs).2 ws
structure WOk (w : List Nat) : Prop where
  a : w.all (· < 128) = true
  s : (strip w).all (· < 128) = true
  n : w.length ≤ 100
  m : (strip w).length ≤ 900
noncomputable def PN (N : List OD) : Prop := ∀ od ∈ N, match od with
  | .lst ds => ∃ ns : List Int, ds = ns.map .int
  | .lex _ _ _ => True
  | .cit _ _ => False
theorem PN.sca {N : List OD} (h : PN N) : ScaN N := fun od m => by
  have := h od m
  cases od with
  | lst ds => obtain ⟨ns, rfl⟩ := this; exact fun d hd => by obtain ⟨_, _, rfl⟩ := List.mem_map.mp hd; trivial
  | lex => trivial
  | cit => trivial
theorem PN.clo {N : List OD} {n : Nat} (h : PN N) : CloN n N := fun od m => by
  have := h od m
  cases od with
  | lst ds => obtain ⟨ns, rfl⟩ := this; exact fun d hd => by obtain ⟨_, _, rfl⟩ := List.mem_map.mp hd; trivial
  | lex => trivial
  | cit => exact this
theorem PN.set {N : List OD} (h : PN N) {i : Nat} {od : OD} (ho : match od with
  | .lst ds => ∃ ns : List Int, ds = ns.map D.int
  | .lex _ _ _ => True
  | .cit _ _ => False) : PN (N.set i od) := fun od' m => by
  rcases List.mem_or_eq_of_mem_set m with m | rfl
  · exact h od' m
  · exact ho
structure LexFn (c : Cf) : Prop where
  get0 : ∀ {m N k i cs ln}, 5 ≤ m → 0 < ln → N[i]? = some (.lex cs [] ln) → PN N → k (sD (tok cs).1) (N.set i (.lex (tok cs).2 [] ln)) → CallOk (c.wN m) 77 [.ob i] N k
  get1 : ∀ {m N k i cs p pb ln}, 5 ≤ m → 0 < ln → N[i]? = some (.lex cs (p :: pb) ln) → PN N → k (.str p) (N.set i (.lex cs pb ln)) → CallOk (c.wN m) 77 [.ob i] N k
  push : ∀ {m N k i cs ln w}, 5 ≤ m → 0 < ln → N[i]? = some (.lex cs [] ln) → PN N → k .none (N.set i (.lex cs [w] ln)) → CallOk (c.wN m) 84 [.ob i, .str w] N k
structure Env0 (c : Cf) : Prop where
  O : c.Ok
  T : TokOk c
  B : c.B = AllBare
  L : LexFn c
/-- the words to come, and what is told -/
structure Wd (i j : Nat) (ln : Int) (N : List OD) (b : Bool) (ws : List (List Nat)) (told : List Int) : Prop where
  ex : ∃ cs pb, N[i]? = some (.lex cs pb ln) ∧ ((pb = [] ∧ Rd cs ws) ∨ (b = false ∧ ∃ w ws', pb = [(⟨w.toArray⟩ : Str)] ∧ ws = w :: ws' ∧ Rd cs ws'))
  td : N[j]? = some (.lst (told.map .int))
  pn : PN N
  ne : i ≠ j
  sz : told.length + ws.length ≤ 1000
  lp : 0 < ln
  zo : N[0]? = some (.lex [] [] (-1)) ∧ i ≠ 0 ∧ j ≠ 0
section
variable {c : Cf} {N : List OD} {k : Kt} {n m i j : Nat} {ln : Int} {b : Bool} {ws : List (List Nat)} {told : List Int} {w : List Nat}
theorem GetOk.lexm (O : c.Ok) {cs : List Nat} {pb : List Str} {nm : Str} {f : Addr} (e : N[i]? = some (.lex cs pb ln)) (h0 : 0 < ln) (hm : (nm, f) ∈ [(Str.ofString "get_token", 77), (Str.ofString "push_token", 84), (Str.ofString "_read_char", 70)]) : GetOk c (.ob i) nm N (.ref f) := fun x v pl Q G i' h => by
  obtain ⟨a, r, rfl, hz⟩ := i'.ob'
  obtain ⟨m, F, _⟩ := G.S.fr
  exact O.HL.mth (ge := x.ge) (dr := x.dr) (os := x.os) (tk := x.tk) F G.C.X (G.S.lg.obs _ _ _ e hz) h0 rfl hm h
theorem Wd.set (W : Wd i j ln N b ws told) {cs : List Nat} {pb : List Str} {b' : Bool} {ws' : List (List Nat)} (hs : told.length + ws'.length ≤ 1000) (h : (pb = [] ∧ Rd cs ws') ∨ (b' = false ∧ ∃ w ws, pb = [(⟨w.toArray⟩ : Str)] ∧ ws' = w :: ws ∧ Rd cs ws)) : Wd i j ln (N.set i (.lex cs pb ln)) b' ws' told := by
  obtain ⟨⟨cs0, pb0, e, _⟩, ht, pn, ne, _, lp, z, i0, j0⟩ := W
  exact ⟨⟨cs, pb, List.getElem?_set_self (List.getElem?_eq_some_iff.mp e).1, h⟩, by rw [List.getElem?_set_ne ne]; exact ht, pn.set trivial, ne, hs, lp, by rw [List.getElem?_set_ne i0]; exact z, i0, j0⟩
theorem Wd.get (E : Env0 c) (W : Wd i j ln N b (w :: ws) told) (hm : 5 ≤ m) (h : ∀ N', N'.length = N.length → Wd i j ln N' true ws told → k (sD w) N') : CallOk (c.wN m) 77 [.ob i] N k := by
  obtain ⟨cs, pb, e, ⟨rfl, hr⟩ | ⟨_, w', ws', rfl, e2, hr⟩⟩ := id W.ex
  · refine E.L.get0 hm W.lp e W.pn ?_
    rw [hr.1]
    exact h _ (List.length_set ..) (W.set (Nat.le_of_succ_le W.sz) (.inl ⟨rfl, hr.2⟩))
  · obtain ⟨rfl, rfl⟩ := List.cons.inj e2
    exact E.L.get1 hm W.lp e W.pn (h _ (List.length_set ..) (W.set (Nat.le_of_succ_le W.sz) (.inl ⟨rfl, hr⟩)))
theorem Wd.push (E : Env0 c) (W : Wd i j ln N true ws told) (hs : told.length + (w :: ws).length ≤ 1000) (hm : 5 ≤ m) (h : ∀ N', N'.length = N.length → Wd i j ln N' false (w :: ws) told → k .none N') : CallOk (c.wN m) 84 [.ob i, sD w] N k := by
  obtain ⟨cs, pb, e, ⟨rfl, hr⟩ | ⟨q, _⟩⟩ := id W.ex
  · exact E.L.push hm W.lp e W.pn (h _ (List.length_set ..) (W.set hs (.inr ⟨rfl, w, ws, rfl, rfl, hr⟩)))
  · cases q
theorem Wd.gm (E : Env0 c) (W : Wd i j ln N b ws told) {nm : Str} {f : Addr} (hm : (nm, f) ∈ [(Str.ofString "get_token", 77), (Str.ofString "push_token", 84), (Str.ofString "_read_char", 70)]) : GetOk (c.wN m) (.ob i) nm N (.ref f) := let ⟨_, _, e, _⟩ := W.ex; GetOk.lexm E.O.wN e W.lp hm
theorem numC (E : Env0 c) (hm : 3 ≤ m) (hw : WOk w) (pn : PN N) (h : k (.int (numOf w)) N) : CallOk (c.wN m) 132 [sD w] N k :=
  number_ok (c := c.wN m) (n := m - 2) E.O.wN E.T E.B (show m = m - 2 + 1 + 1 by (first | lia | omega)) hw.a hw.s (Nat.le_trans hw.n (by decide)) hw.m pn.clo pn.sca h
/-- number = _law_number(lexer.get_token()) -/
theorem Wd.num (E : Env0 c) (W : Wd i j ln N b (w :: ws) told) (hm : 5 ≤ m) (hw : WOk w) (h : ∀ N', N'.length = N.length → Wd i j ln N' true ws told → k (.int (numOf w)) N') :
    GetOk (c.wN m) (.ob i) (Str.ofString "get_token") N (.ref 77) ∧ FnOk (c.wN m) (.ref 77) [.ob i] N fun d N => FnOk (c.wN m) (.ref 132) [d] N k :=
  ⟨W.gm E (.head _), FnOk.ofCall (W.get E hm fun N' hl W' => FnOk.ofCall (numC E (by (first | lia | omega)) hw W'.pn (h N' hl W')))⟩
end
-- stretches of brackets
inductive Bal : Nat → List (List Nat) → Prop
  | done : Bal 0 []
  | op {d r} : Bal (d + 2) r → Bal (d + 1) ([40] :: r)
  | cl {d r} : Bal d r → Bal (d + 1) ([41] :: r)
  | oth {d w r} : chk w = true → w ≠ [] → Bal (d + 1) r → Bal (d + 1) (w :: r)
inductive Par : List Nat → Nat → Prop
  | one : Par [40] 1
  | op {s d} : Par s (d + 1) → Par (s ++ [40]) (d + 2)
  | cl {s d} : Par s (d + 1) → Par (s ++ [41]) d
theorem Par.all {s : List Nat} {d : Nat} (h : Par s d) : ∀ a ∈ s, a = 40 ∨ a = 41 := by
  induction h with
  | one => exact fun a m => .inl (List.mem_singleton.mp m)
  | op _ ih => exact fun a m => (List.mem_append.mp m).elim (ih a) fun m => .inl (List.mem_singleton.mp m)
  | cl _ ih => exact fun a m => (List.mem_append.mp m).elim (ih a) fun m => .inr (List.mem_singleton.mp m)
theorem Par.strip {s : List Nat} {d : Nat} (h : Par s d) : Mine.strip s = s := by
  unfold Mine.strip
  exact if_neg fun m => by rcases h.all _ m with e | e <;> exact absurd e (by decide)
theorem Par.go {s : List Nat} {d : Nat} (h : Par s d) : ∀ t : List Nat, ∃ p, chkGo (units 0 false (s ++ t)) 0 = chkGo (units p false t) d := by
  induction h with
  | one => exact fun t => ⟨1, by show chkGo (units 0 false (40 :: t)) 0 = _; rw [units_other 0 t (by decide)]; simp [chkGo]⟩
  | @op s d _ ih =>
    intro t
    obtain ⟨p, e⟩ := ih (40 :: t)
    refine ⟨p + 1, ?_⟩
    rw [List.append_assoc]
    refine e.trans ?_
    rw [units_other p t (by decide)]
    show (if [40] = [40] then chkGo (units (p + 1) false t) (((d + 1 : Nat) : Int) + 1) else _) = _
    rw [if_pos rfl]; rfl
  | @cl s d _ ih =>
    intro t
    obtain ⟨p, e⟩ := ih (41 :: t)
    refine ⟨p + 1, ?_⟩
    rw [List.append_assoc]
    refine e.trans ?_
    rw [units_other p t (by decide)]
    show (if [41] = [40] then _ else if [41] = [41] then (if ((d + 1 : Nat) : Int) - 1 < 0 then false else chkGo (units (p + 1) false t) (((d + 1 : Nat) : Int) - 1)) else _) = _
    rw [if_neg (by decide), if_pos rfl, if_neg (by (first | lia | omega)), show ((d + 1 : Nat) : Int) - 1 = d by (first | lia | omega)]
theorem Par.chk {s : List Nat} {d : Nat} (h : Par s d) : Mine.chk s = decide (d = 0) := by
  unfold Mine.chk
  rw [h.strip]
  obtain ⟨p, e⟩ := h.go []
  rw [List.append_nil] at e
  rw [e]
  show ((d : Int) == 0) = _
  rw [Bool.eq_iff_iff, beq_iff_eq, decide_eq_true_eq]; (first | lia | omega)
noncomputable def b67s : SxT := (sAsg 7 (eMeth (.ref 77) (eLoc 0) (Str.ofString "get_token") aNil) (sIf (tVal (eCmp .Eq (eLoc 7) (eCst (.str (Str.ofString ""))))) (sRet (eLoc 1)) sNil (sIf (tNot (tVal (eCall (.ref 49) (aCons (eLoc 7) aNil)))) (sAsg 8 (eBin .Add (eLoc 8) (eLoc 7)) sNil) sNil sNil)))
noncomputable def t67s : SxT := (sAsg 8 (eCst (.str (Str.ofString "("))) (sWh (tNot (tVal (eCall (.ref 49) (aCons (eLoc 8) aNil)))) b67s (sRet (eLoc 1))))
noncomputable def b67 : SxT := (sAsg 7 (eMeth (.ref 77) (eLoc 0) (Str.ofString "get_token") aNil) (sAsg 4 (eCall (.ref 132) (aCons (eLoc 7) aNil)) (sIf (tOr (tVal (eCmp .Eq (eLoc 4) (eCst (.int 8)))) (tVal (eCall (.ref 101) (aCons (eLoc 4) aNil)))) (sRet (eIte (tVal (eCmp .Eq (eLoc 6) (eCst (.int 21)))) (eLoc 1) (eLoc 2))) sNil (sExp (eMeth (.ref 84) (eLoc 0) (Str.ofString "push_token") (aCons (eLoc 7) aNil)) (sAsg 5 (eCall (.ref 139) (aCons (eLoc 0) (aCons (eLoc 1) (aCons (eLoc 2) (aCons (eLoc 3) aNil))))) (sIf (tVal (eCmp .Eq (eLoc 6) (eCst (.int 21)))) (sAsg 1 (eLoc 5) sNil) (sAsg 2 (eLoc 5) sNil) sNil))))))
noncomputable def t67 : SxT := sAsg 4 (eCall (.ref 132) (aCons (eMeth (.ref 77) (eLoc 0) (Str.ofString "get_token") aNil) aNil)) (sIf (tVal (eCmp .Eq (eLoc 4) (eCst (.int 31)))) (sRet (eBin .Sub (eCst (.flt 4607182418800017408)) (eCall (.ref 139) (aCons (eLoc 0) (aCons (eBin .Sub (eCst (.flt 4607182418800017408)) (eLoc 2)) (aCons (eBin .Sub (eCst (.flt 4607182418800017408)) (eLoc 1)) (aCons (eLoc 3) aNil))))))) sNil (sIf (tVal (eCmp .NotEq (eLoc 4) (eCst (.int 7)))) (sExp (eMeth (.builtin "list.append") (eLoc 3) (Str.ofString "append") (aCons (eLoc 4) aNil)) (sAsg 5 (eBin .Div (eLoc 4) (eCst (.int 64))) (sRet (eBin .Sub (eBin .Add (eBin .Add (eLoc 1) (eLoc 5)) (eLoc 2)) (eBin .Mult (eCst (.flt 4611686018427387904)) (eIdx (eCall (.ref 21) (aCons (eLoc 1) (aCons (eLoc 5) (aCons (eLoc 2) aNil)))) (eCst (.int 1)))))))) sNil (sAsg 6 (eCall (.ref 132) (aCons (eMeth (.ref 77) (eLoc 0) (Str.ofString "get_token") aNil) aNil)) (sWh (tVal (eCmp .Gt (eIdx (eCall (.ref 28) (aCons (eLoc 1) (aCons (eLoc 1) (aCons (eLoc 2) aNil)))) (eCst (.int 1))) (eCst (.flt 0)))) b67 t67s))))
section
variable {c : Cf} {N : List OD} {k : Kt} {n m i j : Nat} {ln : Int} {b : Bool} {ws : List (List Nat)} {told : List Int} {w : List Nat}
theorem chkC (E : Env0 c) (hm : 3 ≤ m) {s : List Nat} (h1 : s.all (· < 128) = true) (h2 : (strip s).all (· < 128) = true) (h3 : s.length ≤ 900) (pn : PN N) (h : k (.bool (chk s)) N) : CallOk (c.wN m) 49 [sD s] N k :=
  check_ok (c := c.wN m) (n := m - 2) E.O.wN E.B (show m = m - 2 + 1 + 1 by (first | lia | omega)) h1 h2 h3 pn.clo pn.sca h
theorem skip_ok (E : Env0 c) (hm : 5 ≤ m) {f g : UInt64} {o4 o5 o6 : Option D} {kn kc : Lk2} : ∀ (us : List (List Nat)) (d : Nat) (s : List Nat) (N : List OD) (b : Bool) (o7 : Option D), Bal d us → Par s d → s.length + us.length ≤ 900 → (∀ w ∈ us, WOk w) → Wd i j ln N b (us ++ ws) told → (∀ N' b', N'.length = N.length → Wd i j ln N' b' ws told → k (.flt f) N') →
    whG (tNot (tVal (eCall (.ref 49) (aCons (eLoc 8) aNil))) (c.wN m)) (fun l N q => b67s (c.wN m) l N q q k) (us.length + 1) [some (.ob i), some (.flt f), some (.flt g), some (.ob j), o4, o5, o6, o7, some (sD s)] N (fun l N => sRet (eLoc 1) (c.wN m) l N kn kc k) := by
  intro us
  induction us with
  | nil =>
    intro d s N b o7 hb hp hl hw W h
    have hp0 : ∀ a ∈ s, decide (a < 128) = true := fun a m => by rcases hp.all a m with rfl | rfl <;> rfl
    refine FnOk.ofCall (chkC E (by (first | lia | omega)) (List.all_eq_true.mpr hp0) (by rw [hp.strip]; exact List.all_eq_true.mpr hp0) (by simpa using hl) W.pn (TruOk.bool ?_))
    rw [hp.chk]
    cases hb
    exact h N b rfl W
  | cons w us ih =>
    intro d s N b o7 hb hp hl hw W h
    have hp0 : ∀ a ∈ s, decide (a < 128) = true := fun a m => by rcases hp.all a m with rfl | rfl <;> rfl
    rw [List.length_cons] at hl
    have hw0 := hw w (.head _)
    have hd : d ≠ 0 := fun e => by subst e; cases hb
    refine FnOk.ofCall (chkC E (by (first | lia | omega)) (List.all_eq_true.mpr hp0) (by rw [hp.strip]; exact List.all_eq_true.mpr hp0) (by (first | lia | omega)) W.pn (TruOk.bool ?_))
    rw [hp.chk, decide_eq_false hd]
    refine ⟨W.gm E (.head _), FnOk.ofCall (W.get E hm fun N' hl' W' => CmpOk.eqS (TruOk.bool ?_))⟩
    have key : ∀ {q : Bool}, ((⟨w.toArray⟩ : Str) == Str.ofString "") = q → w ≠ [] → q = false := fun e hn => by
      rw [← e, show Str.ofString "" = ⟨#[]⟩ by decide +kernel]
      have : (⟨w.toArray⟩ : Str) ≠ ⟨#[]⟩ := fun e => hn (by simpa using e)
      simpa using this
    have step : ∀ {r : Bool} {s' : List Nat}, w ≠ [] → chk w = r → (cond (!r) (s' = s ++ w) (s' = s)) → (∀ o7, whG (tNot (tVal (eCall (.ref 49) (aCons (eLoc 8) aNil))) (c.wN m)) (fun l N q => b67s (c.wN m) l N q q k) (us.length + 1) [some (.ob i), some (.flt f), some (.flt g), some (.ob j), o4, o5, o6, o7, some (sD s')] N' (fun l N => sRet (eLoc 1) (c.wN m) l N kn kc k)) →
        cond ((⟨w.toArray⟩ : Str) == Str.ofString "") (sRet (eLoc 1) (c.wN m) [some (.ob i), some (.flt f), some (.flt g), some (.ob j), o4, o5, o6, some (sD w), some (sD s)] N' kn kc k) (sIf (tNot (tVal (eCall (.ref 49) (aCons (eLoc 7) aNil)))) (sAsg 8 (eBin .Add (eLoc 8) (eLoc 7)) sNil) sNil sNil (c.wN m) [some (.ob i), some (.flt f), some (.flt g), some (.ob j), o4, o5, o6, some (sD w), some (sD s)] N'
          (fun l N => whG (tNot (tVal (eCall (.ref 49) (aCons (eLoc 8) aNil))) (c.wN m)) (fun l N q => b67s (c.wN m) l N q q k) (us.length + 1) l N (fun l N => sRet (eLoc 1) (c.wN m) l N kn kc k)) (fun l N => whG (tNot (tVal (eCall (.ref 49) (aCons (eLoc 8) aNil))) (c.wN m)) (fun l N q => b67s (c.wN m) l N q q k) (us.length + 1) l N (fun l N => sRet (eLoc 1) (c.wN m) l N kn kc k)) k) := fun {r s'} hne hr hs hk => by
      rw [key rfl hne]
      refine FnOk.ofCall (chkC E (by (first | lia | omega)) hw0.a hw0.s (Nat.le_trans hw0.n (by decide)) W'.pn (TruOk.bool ?_))
      rw [hr]
      cases r with
      | true => rw [show s' = s from hs] at hk; exact hk _
      | false =>
        refine BinOk.addS ?_ ?_
        · show s.toArray.size + w.toArray.size ≤ _
          rw [List.size_toArray, List.size_toArray]; have := hw0.n; exact Nat.le_trans (show s.length + w.length ≤ 1000 by (first | lia | omega)) (by decide)
        · rw [sD_add, ← show s' = s ++ w from hs]; exact hk _
    have hN : ∀ N'' b', N''.length = N'.length → Wd i j ln N'' b' ws told → k (.flt f) N'' := fun N'' b' e => h N'' b' (e.trans hl')
    have hw' : ∀ w ∈ us, WOk w := fun w m => hw w (.tail _ m)
    cases hb with
    | op hb => exact step (by decide) (by decide +kernel : chk [40] = false) rfl fun o7 => ih _ _ N' true o7 hb (.op hp) (by rw [List.length_append]; simp only [List.length_cons, List.length_nil]; (first | lia | omega)) hw' W' hN
    | cl hb => exact step (by decide) (by decide +kernel : chk [41] = false) rfl fun o7 => ih _ _ N' true o7 hb (.cl hp) (by rw [List.length_append]; simp only [List.length_cons, List.length_nil]; (first | lia | omega)) hw' W' hN
    | oth h1 h2 hb => exact step h2 h1 rfl fun o7 => ih _ _ N' true o7 hb hp (by (first | lia | omega)) hw' W' hN
end
end

noncomputable section
noncomputable def valL (G : Bool) (f g : Int) : List Int → Int
  | [] => if G then f else g
  | w :: r => if G then valL G (midI f w g) g r else valL G f (midI f w g) r
noncomputable def dueL (G : Bool) (lo hi : List Int) : List Tr → List Int
  | [] => []
  | q :: r => due q lo hi ++ (if G then dueL G (lo ++ [worth q]) hi r else dueL G lo (hi ++ [worth q]) r)
theorem dueL_nil {G : Bool} : ∀ (qs : List Tr) {lo hi : List Int}, ¬ Lt lo hi → dueL G lo hi qs = []
  | [], _, _, _ => rfl
  | q :: r, lo, hi, h => by
    unfold dueL
    rw [due_nil q h, dueL_nil r (fun e => h e.left), dueL_nil r (fun e => h e.right)]; cases G <;> rfl
theorem valL_eq {G : Bool} {f : Int} : ∀ ws : List Int, valL G f f ws = f
  | [] => by cases G <;> rfl
  | w :: r => by
    have e : midI f w f = f := by unfold midI; (first | lia | omega)
    unfold valL
    rw [e, valL_eq r]; cases G <;> rfl
noncomputable def wordB (w : List Nat) (v : Nat) : Bool := w.all (· < 128) && (strip w).all (· < 128) && decide (w.length ≤ 100) && decide ((strip w).length ≤ 900) && numOf w == (v : Int)
theorem wordB_ok {w : List Nat} {v : Nat} (h : wordB w v = true) : WOk w ∧ numOf w = (v : Int) := by
  simp only [wordB, Bool.and_eq_true, decide_eq_true_eq, beq_iff_eq] at h
  exact ⟨⟨h.1.1.1.1, h.1.1.1.2, h.1.1.2, h.1.2⟩, h.2⟩
theorem leaf_tab : ((List.range 46).all fun a => (List.range 6).all fun i => a == 22 || (wordB (signOf (a + 9) ++ riderOf i) (a + 9) && chk (signOf (a + 9) ++ riderOf i) && (signOf (a + 9) ++ riderOf i) != [])) = true := by decide +kernel
theorem leaf_ok {x : Nat} (L : LeafOk x) : (WOk (leafW x) ∧ numOf (leafW x) = ((x % 64 : Nat) : Int)) ∧ chk (leafW x) = true ∧ leafW x ≠ [] := by
  have h1 := L.a; have h2 := L.b; have h3 := L.d; have h4 := L.e
  have t := List.all_eq_true.mp (List.all_eq_true.mp leaf_tab (x % 64 - 9) (List.mem_range.mpr (by (first | lia | omega)))) (x / 64) (List.mem_range.mpr (by (first | lia | omega)))
  rw [show x % 64 - 9 + 9 = x % 64 by (first | lia | omega), show (x % 64 - 9 == 22) = false from beq_false_of_ne (by (first | lia | omega)), Bool.false_or] at t
  simp only [Bool.and_eq_true, bne_iff_ne] at t
  exact ⟨wordB_ok t.1.1, t.1.2, t.2⟩
theorem w40 : WOk [40] ∧ numOf [40] = ((7 : Nat) : Int) := wordB_ok (by decide +kernel)
theorem w41 : WOk [41] ∧ numOf [41] = ((8 : Nat) : Int) := wordB_ok (by decide +kernel)
theorem w126 : WOk [126] ∧ numOf [126] = ((31 : Nat) : Int) := wordB_ok (by decide +kernel)
theorem wop (G : Bool) : WOk (opS G) ∧ numOf (opS G) = ((if G then 21 else 20 : Nat) : Int) := by cases G <;> exact wordB_ok (by decide +kernel)
theorem words_WOk : ∀ t : Tr, WFt t → ∀ w ∈ wordsT t, WOk w
  | .leaf x, h => List.forall_mem_singleton.mpr (leaf_ok h).1.1
  | .neg a, h => List.forall_mem_cons.mpr ⟨w126.1, words_WOk a h⟩
  | .two g a b, h => fun w m => by
    simp only [wordsT, List.cons_append, List.mem_cons, List.mem_append, List.not_mem_nil, or_false] at m
    rcases m with rfl | rfl | (m | m) | rfl
    · exact w40.1
    · exact (wop g).1
    · exact words_WOk a h.1 w m
    · exact words_WOk b h.2 w m
    · exact w41.1
  | .three g a b d, h => fun w m => by
    simp only [wordsT, List.cons_append, List.mem_cons, List.mem_append, List.not_mem_nil, or_false] at m
    rcases m with rfl | rfl | (m | m | m) | rfl
    · exact w40.1
    · exact (wop g).1
    · exact words_WOk a h.1 w m
    · exact words_WOk b h.2.1 w m
    · exact words_WOk d h.2.2 w m
    · exact w41.1
theorem words_Bal : ∀ (t : Tr), WFt t → ∀ {d : Nat} {r : List (List Nat)}, Bal (d + 1) r → Bal (d + 1) (wordsT t ++ r)
  | .leaf x, h, _, _, hr => .oth (leaf_ok h).2.1 (leaf_ok h).2.2 hr
  | .neg a, h, _, _, hr => .oth (by decide +kernel) (by decide) (words_Bal a h hr)
  | .two g a b, h, _, _, hr => by
    simp only [wordsT, List.cons_append, List.append_assoc, List.nil_append]
    exact .op (.oth (by cases g <;> decide +kernel) (by cases g <;> decide) (words_Bal a h.1 (words_Bal b h.2 (.cl hr))))
  | .three g a b d, h, _, _, hr => by
    simp only [wordsT, List.cons_append, List.append_assoc, List.nil_append]
    exact .op (.oth (by cases g <;> decide +kernel) (by cases g <;> decide) (words_Bal a h.1 (words_Bal b h.2.1 (words_Bal d h.2.2 (.cl hr)))))
theorem words_first : ∀ (t : Tr), WFt t → ∃ w r v, wordsT t = w :: r ∧ WOk w ∧ numOf w = ((v : Nat) : Int) ∧ v ≠ 8 ∧ v ≠ 0
  | .leaf x, h => ⟨_, _, _, rfl, (leaf_ok h).1.1, (leaf_ok h).1.2, by have := h.a; (first | lia | omega), by have := h.a; (first | lia | omega)⟩
  | .neg a, _ => ⟨_, _, _, rfl, w126.1, w126.2, by decide, by decide⟩
  | .two g a b, _ => ⟨_, _, _, rfl, w40.1, w40.2, by decide, by decide⟩
  | .three g a b d, _ => ⟨_, _, _, rfl, w40.1, w40.2, by decide, by decide⟩
noncomputable def PlayIH (c : Cf) (m i j : Nat) (ln : Int) (q : Tr) : Prop := ∀ {f g : Int} {lo hi told : List Int} {N : List OD} {b : Bool} {ws : List (List Nat)} {k : Kt}, Win f g lo hi → Wd i j ln N b (wordsT q ++ ws) told →
  (∀ N' b', N'.length = N.length → Wd i j ln N' b' ws (told ++ due q lo hi) → k (.flt (fl (midI f (worth q) g).toNat)) N') → CallOk (c.wN m) 139 [.ob i, .flt (fl f.toNat), .flt (fl g.toNat), .ob j] N k
noncomputable abbrev tst67 : CdT := tVal (eCmp .Gt (eIdx (eCall (.ref 28) (aCons (eLoc 1) (aCons (eLoc 1) (aCons (eLoc 2) aNil)))) (eCst (.int 1))) (eCst (.flt 0)))
noncomputable abbrev loc67 (i j : Nat) (f g : Int) (G : Bool) (o4 o5 o7 o8 : Option D) : Loc := [some (.ob i), some (.flt (fl f.toNat)), some (.flt (fl g.toNat)), some (.ob j), o4, o5, some (.int ((if G then 21 else 20 : Nat) : Int)), o7, o8]
section
variable {c : Cf} {N : List OD} {k : Kt} {n m i j : Nat} {ln : Int} {b : Bool} {ws : List (List Nat)} {told : List Int} {w : List Nat}
theorem tst_eq (E : Env0 c) (hm : 1 ≤ m) {f : Int} (h1 : f ≤ 64) {G : Bool} {o4 o5 o7 o8 : Option D} {q : Bool → List OD → Prop} (h : q false N) : tst67 (c.wN m) (loc67 i j f f G o4 o5 o7 o8) N q := by
  refine FnOk.ofCall (hsv_fn (c := c.wN m) (n := m - 1) E.O.wN (show m = m - 1 + 1 by (first | lia | omega)) (a := f.toNat) (b := f.toNat) (d := f.toNat) (by (first | lia | omega)) (by (first | lia | omega)) (by (first | lia | omega)) fun h' v => IdxOk.tup (i := 1) (show 3 ≤ sizeLine by decide) rfl (CmpOk.gtF (TruOk.bool ?_)))
  rw [if_pos (by (first | lia | omega)), show (Float64.cmp 0 0 == some Ordering.gt) = false from by decide +kernel]
  exact h
theorem tst_lt (E : Env0 c) (hm : 1 ≤ m) {f g : Int} (h0 : 0 ≤ f) (hfg : f < g) (h1 : g ≤ 64) {G : Bool} {o4 o5 o7 o8 : Option D} {q : Bool → List OD → Prop} (h : q true N) : tst67 (c.wN m) (loc67 i j f g G o4 o5 o7 o8) N q := by
  refine FnOk.ofCall (hsv_fn (c := c.wN m) (n := m - 1) E.O.wN (show m = m - 1 + 1 by (first | lia | omega)) (a := f.toNat) (b := f.toNat) (d := g.toNat) (by (first | lia | omega)) (by (first | lia | omega)) (by (first | lia | omega)) fun h' v => IdxOk.tup (i := 1) (show 3 ≤ sizeLine by decide) rfl (CmpOk.gtF (TruOk.bool ?_)))
  rw [if_neg (by (first | lia | omega)), show (0 : UInt64) = fl 0 by decide +kernel, fl_pos (by (first | lia | omega)) (by (first | lia | omega)) (by (first | lia | omega)) (by (first | lia | omega))]
  exact h
theorem loop_ok (E : Env0 c) (hm : 5 ≤ m) {G : Bool} {kn kc : Lk2} : ∀ (qs : List Tr) (f g : Int) (lo hi told : List Int) (N : List OD) (b : Bool) (o4 o5 o7 o8 : Option D), g ≤ 64 → (Win f g lo hi ∨ (f = g ∧ ¬ Lt lo hi)) → (∀ q ∈ qs, WFt q ∧ PlayIH c m i j ln q) → (qs.flatMap wordsT).length ≤ 800 →
    Wd i j ln N b (qs.flatMap wordsT ++ [41] :: ws) told → (∀ N' b', N'.length = N.length → Wd i j ln N' b' ws (told ++ dueL G lo hi qs) → k (.flt (fl (valL G f g (qs.map worth)).toNat)) N') →
    whG (tst67 (c.wN m)) (fun l N q => b67 (c.wN m) l N q q k) (qs.length + 1) (loc67 i j f g G o4 o5 o7 o8) N (fun l N => t67s (c.wN m) l N kn kc k) := by
  have brk : ∀ (n : Nat) (qs : List Tr) (f : Int) (lo hi told : List Int) (N : List OD) (b : Bool) (o4 o5 o7 o8 : Option D), f ≤ 64 → ¬ Lt lo hi → (∀ q ∈ qs, WFt q ∧ PlayIH c m i j ln q) → (qs.flatMap wordsT).length ≤ 800 → Wd i j ln N b (qs.flatMap wordsT ++ [41] :: ws) told →
      (∀ N' b', N'.length = N.length → Wd i j ln N' b' ws (told ++ dueL G lo hi qs) → k (.flt (fl (valL G f f (qs.map worth)).toNat)) N') → whG (tst67 (c.wN m)) (fun l N q => b67 (c.wN m) l N q q k) (n + 1) (loc67 i j f f G o4 o5 o7 o8) N (fun l N => t67s (c.wN m) l N kn kc k) := fun n qs f lo hi told N b o4 o5 o7 o8 hf hl hq hw W h => by
    refine tst_eq E (by (first | lia | omega)) hf ?_
    have e40 : D.str (Str.ofString "(") = sD [40] := congrArg D.str (by decide +kernel)
    show t67s (c.wN m) _ N kn kc k
    unfold t67s sAsg eCst
    rw [e40]
    rw [dueL_nil qs hl, List.append_nil, valL_eq] at h
    have hb : ∀ qs : List Tr, (∀ q ∈ qs, WFt q ∧ PlayIH c m i j ln q) → Bal 1 (qs.flatMap wordsT ++ [[41]]) := fun qs => by
      induction qs with
      | nil => exact fun _ => .cl .done
      | cons q r ih => exact fun hq => by rw [List.flatMap_cons, List.append_assoc]; exact words_Bal q (hq q (.head _)).1 (ih fun p m => hq p (.tail _ m))
    refine Exists.intro _ (skip_ok E hm (qs.flatMap wordsT ++ [[41]]) 1 [40] N b o7 (hb qs hq) .one ?_ (fun w m => ?_) (by rw [List.append_assoc]; exact W) fun N' b' e W' => h N' b' e W')
    · rw [List.length_append]; show 1 + (_ + 1) ≤ _; (first | lia | omega)
    · rcases List.mem_append.mp m with m | m
      · obtain ⟨q, hq', m⟩ := List.mem_flatMap.mp m
        exact words_WOk q (hq q hq').1 w m
      · rw [List.mem_singleton.mp m]; exact w41.1
  intro qs
  induction qs with
  | nil =>
    intro f g lo hi told N b o4 o5 o7 o8 hg hwin hq hw W h
    rcases hwin with hwin | ⟨rfl, hl⟩
    · refine tst_lt E (by (first | lia | omega)) hwin.f0 hwin.lt hg ?_
      refine ⟨W.gm E (.head _), FnOk.ofCall (W.get E hm fun N1 e1 W1 => FnOk.ofCall (numC E (by (first | lia | omega)) w41.1 W1.pn ?_))⟩
      rw [w41.2]
      refine CmpOk.eqI (TruOk.bool ?_)
      have h1 := h N1 true e1 (by rw [show dueL G lo hi [] = [] from rfl, List.append_nil]; exact W1)
      refine CmpOk.eqI (TruOk.bool ?_)
      cases G with
      | true => exact h1
      | false => exact h1
    · exact brk 0 [] f lo hi told N b o4 o5 o7 o8 hg hl hq hw W h
  | cons q qs ih =>
    intro f g lo hi told N b o4 o5 o7 o8 hg hwin hq hw W h
    rcases hwin with hwin | ⟨rfl, hl⟩
    · obtain ⟨wf, IH⟩ := hq q (.head _)
      obtain ⟨w0, r0, v, ew, hw0, hv, v8, v0⟩ := words_first q wf
      refine tst_lt E (by (first | lia | omega)) hwin.f0 hwin.lt hg ?_
      rw [List.flatMap_cons, List.append_assoc] at W
      have W0 := W
      rw [ew] at W0
      refine ⟨W.gm E (.head _), FnOk.ofCall (W0.get E hm fun N1 e1 W1 => FnOk.ofCall (numC E (by (first | lia | omega)) hw0 W1.pn ?_))⟩
      rw [hv]
      refine CmpOk.eqI (TruOk.bool (cond_f (by rw [beq_eq_false_iff_ne]; (first | lia | omega)) (FnOk.ofCall (iseof_ok (c := c.wN m) (n := m - 1) E.O.wN (show m = m - 1 + 1 by (first | lia | omega)) (TruOk.bool (cond_f (by rw [beq_eq_false_iff_ne]; (first | lia | omega)) ?_))))))
      refine ⟨W1.gm E (.tail _ (.head _)), FnOk.ofCall (W1.push E W0.sz hm fun N2 e2 W2 => FnOk.ofCall (IH hwin (ws := qs.flatMap wordsT ++ [41] :: ws) (by rw [ew]; exact W2) fun N3 b3 e3 W3 => CmpOk.eqI (TruOk.bool ?_)))⟩
      have hlen : N3.length = N.length := e3.trans (e2.trans e1)
      have hw' : (qs.flatMap wordsT).length ≤ 800 := by rw [List.flatMap_cons, List.length_append] at hw; (first | lia | omega)
      have hq' : ∀ q ∈ qs, WFt q ∧ PlayIH c m i j ln q := fun p m => hq p (.tail _ m)
      have wr := worth_range q wf
      have hg' := hwin.lt
      have hm1 : midI f (worth q) g ≤ 64 := by have := hwin.g1; unfold midI; (first | lia | omega)
      have h' : ∀ N' b', N'.length = N3.length → Wd i j ln N' b' ws (told ++ due q lo hi ++ (if G then dueL G (lo ++ [worth q]) hi qs else dueL G lo (hi ++ [worth q]) qs)) → k (.flt (fl (if G then valL G (midI f (worth q) g) g (qs.map worth) else valL G f (midI f (worth q) g) (qs.map worth)).toNat)) N' := fun N' b' e W' =>
        h N' b' (e.trans hlen) (by rw [List.append_assoc] at W'; exact W')
      cases G with
      | true => exact ih (midI f (worth q) g) g (lo ++ [worth q]) hi _ N3 b3 _ _ _ _ hg (by
          by_cases hlt : worth q < g
          · exact .inl (hwin.up hlt)
          · exact .inr ⟨by unfold midI; (first | lia | omega), fun L => hlt (L _ (List.mem_append_right _ (.head _)) _ hwin.gm)⟩) hq' hw' W3 h'
      | false => exact ih f (midI f (worth q) g) lo (hi ++ [worth q]) _ N3 b3 _ _ _ _ hm1 (by
          by_cases hlt : f < worth q
          · exact .inl (hwin.down hlt)
          · exact .inr ⟨by unfold midI; (first | lia | omega), fun L => hlt (L _ hwin.fm _ (List.mem_append_right _ (.head _)))⟩) hq' hw' W3 h'
    · exact brk _ (q :: qs) f lo hi told N b o4 o5 o7 o8 hg hl hq hw W h
end
end

noncomputable section
@[reducible] noncomputable def P67 : Pm := ⟨scopeOf (stAt 67), [Str.ofString "lexer", Str.ofString "floor", Str.ofString "ceiling", Str.ofString "told", Str.ofString "number", Str.ofString "level", Str.ofString "kind", Str.ofString "word", Str.ofString "stretch"], [Str.ofString "_law_number", Str.ofString "_law_play", Str.ofString "rgb_to_hls", Str.ofString "rgb_to_hsv", Str.ofString "ISEOF", Str.ofString "_check_parenthesis"]⟩
theorem ok67 : P67.Ok := .of (by kernel_rfl) (by decide +kernel) (by decide +kernel) (by decide +kernel)
theorem pl67 : Plain (stAt 67) := ⟨by kernel_rfl, by kernel_rfl, by decide +kernel⟩
theorem mid_up {f a b g : Int} : midI (midI f a g) b g = midI f (max a b) g := by
  unfold midI; rw [Int.min_max_distrib_right, Int.max_assoc]
theorem mid_dn {f a b g : Int} : midI f b (midI f a g) = midI f (min a b) g := by
  unfold midI
  rw [Int.min_max_distrib_left, ← Int.max_assoc, Int.max_eq_left (Int.min_le_right b f), ← Int.min_assoc, Int.min_comm b a]
theorem mid_cases {f w g : Int} (h : f < g) : (w ≤ f ∧ midI f w g = f) ∨ (f ≤ w ∧ w ≤ g ∧ midI f w g = w) ∨ (g ≤ w ∧ midI f w g = g) := by
  unfold midI
  rcases Int.le_total w f with q | q
  · exact .inl ⟨q, by rw [Int.min_eq_left (Int.le_trans q (Int.le_of_lt h)), Int.max_eq_left q]⟩
  · rcases Int.le_total w g with r | r
    · exact .inr (.inl ⟨q, r, by rw [Int.min_eq_left r, Int.max_eq_right q]⟩)
    · exact .inr (.inr ⟨r, by rw [Int.min_eq_right r, Int.max_eq_right (Int.le_of_lt h)]⟩)
theorem mid_neg {f w g : Int} (h : f < g) : midI (64 - g) w (64 - f) = 64 - midI f (64 - w) g := by
  rcases mid_cases (w := 64 - w) h with ⟨a, e⟩ | ⟨a, b, e⟩ | ⟨a, e⟩ <;> rw [e] <;> rcases mid_cases (f := 64 - g) (w := w) (g := 64 - f) (by (first | lia | omega)) with ⟨a, e⟩ | ⟨a, b, e⟩ | ⟨a, e⟩ <;> rw [e] <;> (first | lia | omega)
theorem mid_range {f w g : Int} (h : f < g) : f ≤ midI f w g ∧ midI f w g ≤ g := by
  rcases mid_cases (w := w) h with ⟨a, e⟩ | ⟨a, b, e⟩ | ⟨a, e⟩ <;> rw [e] <;> (first | lia | omega)
theorem mid3 {a b c : Nat} (h : a < c) : a + b + c - (max (max a b) c + min (min a b) c) = (midI a b c).toNat := by
  rcases Nat.le_total b a with q | q
  · rw [Nat.max_eq_left q, Nat.min_eq_right q, Nat.max_eq_right (Nat.le_of_lt h), Nat.min_eq_left (Nat.le_trans q (Nat.le_of_lt h))]
    rcases mid_cases (f := a) (w := b) (g := c) (by (first | lia | omega)) with ⟨_, e⟩ | ⟨_, _, e⟩ | ⟨_, e⟩ <;> rw [e] <;> (first | lia | omega)
  · rw [Nat.max_eq_right q, Nat.min_eq_left q, Nat.min_eq_left (Nat.le_of_lt h)]
    rcases Nat.le_total b c with r | r
    · rw [Nat.max_eq_right r]
      rcases mid_cases (f := a) (w := b) (g := c) (by (first | lia | omega)) with ⟨_, e⟩ | ⟨_, _, e⟩ | ⟨_, e⟩ <;> rw [e] <;> (first | lia | omega)
    · rw [Nat.max_eq_left r]
      rcases mid_cases (f := a) (w := b) (g := c) (by (first | lia | omega)) with ⟨_, e⟩ | ⟨_, _, e⟩ | ⟨_, e⟩ <;> rw [e] <;> (first | lia | omega)
section
variable {c : Cf} {N : List OD} {k : Kt} {n m i j : Nat} {ln : Int} {b : Bool} {ws : List (List Nat)} {told : List Int} {w : List Nat}
theorem play_fn (O : c.Ok) (hn : c.n = n + 1) {x f g y : D} (h : t67 (c.wN n) [some x, some f, some g, some y, none, none, none, none, none] N (fun _ N => k .none N) (fun _ N => k .none N) k) : CallOk c 139 [x, f, g, y] N k := by
  refine' enterX (P := P67) (m := 4) hn O.hK.fPlay rfl ok67 pl67 rfl (by decide) ?b (by conv => lhs; whnf) ?s ?h
  case b => intro vs hv; intros; rcases vs with _ | ⟨a, _ | ⟨b, _ | ⟨e, _ | ⟨i, _ | _⟩⟩⟩⟩ <;> first | (simp at hv; done) | kernel_rfl
  case s =>
    have O := O.wN (n := n)
    repeat (any_goals ((with_reducible first | exact SndS.nil | refine' SndS.ret _ | refine' SndS.asg (by ((with_reducible (repeat (first | exact Slot.hd | apply Slot.tl))))) _ (by (with_unfolding_all exact fun _ => rfl)) _ | refine' SndS.aug (by ((with_reducible (repeat (first | exact Slot.hd | apply Slot.tl))))) _ _ | refine' SndS.iff _ _ _ _ | refine' SndS.exp _ (by (with_unfolding_all exact fun _ => rfl)) _ | (refine' SndS.forE (by assumption) (by assumption) (by ((with_reducible (repeat (first | exact Slot.hd | apply Slot.tl))))) (by ((with_reducible (repeat (first | exact Slot.hd | apply Slot.tl))))) (by ((with_reducible (repeat (first | exact Slot.hd | apply Slot.tl))))) _ (by (with_unfolding_all exact fun _ => rfl)) (by (with_unfolding_all exact fun _ => rfl)) _ _) | refine' SndS.allB (fun _ _ => _) (by assumption) | refine' SndC.allB (fun _ _ => _) (by assumption) | refine' Snd.allB (fun _ _ => _) (by assumption) | refine' SndS.for1 (by ((with_reducible (repeat (first | exact Slot.hd | apply Slot.tl))))) _ (by (with_unfolding_all exact fun _ _ => rfl)) _ _ | refine' SndS.wh _ _ _ | refine' SndC.cmp _ _ (by with_unfolding_all rfl) | refine' SndC.nt _ | refine' SndC.or _ _ | refine' SndC.val _ (by (with_unfolding_all exact fun _ _ => rfl)) | exact Snd.cint | exact Snd.cstr | exact Snd.cnone | exact Snd.cbool | exact Snd.cflt | (apply Snd.loc; (focus (((with_reducible (repeat (first | exact Slot.hd | apply Slot.tl)))); done))) | (apply Snd.glo; (focus assumption); (focus (((with_reducible (repeat (first | exact Slot.hd | apply Slot.tl)))); done)); (focus ((with_reducible (repeat (first | exact At.hd | apply At.tl))); done))) | (apply Snd.blt; (focus assumption); (focus (((with_reducible (repeat (first | exact Slot.hd | apply Slot.tl)))); done)); (focus ((with_reducible (repeat (first | exact At.hd | apply At.tl))); done)); (focus ((with_reducible (repeat (first | exact At.hd | apply At.tl))); done))) | refine' Snd.bin _ _ | refine' Snd.cmp _ _ (by with_unfolding_all rfl) | refine' Snd.see _ _ _ | refine' Snd.sen _ _ | refine' Snd.sne _ _ | refine' Snd.idx _ _ (by (with_unfolding_all exact fun _ _ => rfl)) | refine' Snd.att _ (by (with_unfolding_all exact fun _ => rfl)) | refine' Snd.ite _ _ _ | refine' Snd.and _ _ | refine' Snd.and1 _ | refine' Snd.meth (n := Str.ofString "get_token") (f := .ref 77) _ _ _ (.inr (.inr (Cf.Ok.hK (by assumption)).fGet.keep)) (by intro _; exact ⟨_, by with_unfolding_all rfl⟩) | refine' Snd.meth (n := Str.ofString "push_token") (f := .ref 84) _ _ _ (.inr (.inr (Cf.Ok.hK (by assumption)).fPush.keep)) (by intro _; exact ⟨_, by with_unfolding_all rfl⟩) | refine' Snd.meth (n := Str.ofString "append") (f := .builtin "list.append") _ _ _ (.inl ⟨_, rfl⟩) (by intro _; exact ⟨_, by with_unfolding_all rfl⟩) | refine' Snd.meth (n := Str.ofString "count") (f := .builtin "str.count") _ _ _ (.inl ⟨_, rfl⟩) (by intro _; exact ⟨_, by with_unfolding_all rfl⟩) | refine' Snd.meth (n := Str.ofString "split") (f := .builtin "str.split") _ _ _ (.inl ⟨_, rfl⟩) (by intro _; exact ⟨_, by with_unfolding_all rfl⟩) | refine' Snd.meth (n := Str.ofString "join") (f := .builtin "str.join") _ _ _ (.inl ⟨_, rfl⟩) (by intro _; exact ⟨_, by with_unfolding_all rfl⟩) | refine' Snd.meth (n := Str.ofString "get") (f := .builtin "dict.get") _ _ _ (.inl ⟨_, rfl⟩) (by intro _; exact ⟨_, by with_unfolding_all rfl⟩) | (apply Snd.callB; (focus (apply Snd.blt; (focus assumption); (focus (((with_reducible (repeat (first | exact Slot.hd | apply Slot.tl)))); done)); (focus ((with_reducible (repeat (first | exact At.hd | apply At.tl))); done)); (focus ((with_reducible (repeat (first | exact At.hd | apply At.tl))); done)))); rotate_left 2; (focus ((with_unfolding_all exact fun _ => rfl)))) | (apply Snd.callT; (focus (apply Snd.blt; (focus assumption); (focus (((with_reducible (repeat (first | exact Slot.hd | apply Slot.tl)))); done)); (focus ((with_reducible (repeat (first | exact At.hd | apply At.tl))); done)); (focus ((with_reducible (repeat (first | exact At.hd | apply At.tl))); done)))); rotate_left 2; (focus ((with_unfolding_all exact fun _ => rfl)))) | (apply Snd.callF; (focus assumption); (focus (apply Snd.glo; (focus assumption); (focus (((with_reducible (repeat (first | exact Slot.hd | apply Slot.tl)))); done)); (focus ((with_reducible (repeat (first | exact At.hd | apply At.tl))); done)))); (focus ((first | exact (Cf.Ok.hK (by assumption)).fHls | exact (Cf.Ok.hK (by assumption)).fHsv | exact (Cf.Ok.hK (by assumption)).fIter | exact (Cf.Ok.hK (by assumption)).fStrip | exact (Cf.Ok.hK (by assumption)).fCheck | exact (Cf.Ok.hK (by assumption)).fIseof | exact (Cf.Ok.hK (by assumption)).fTree | exact (Cf.Ok.hK (by assumption)).fWords | exact (Cf.Ok.hK (by assumption)).fSpelled | exact (Cf.Ok.hK (by assumption)).fLexer | exact (Cf.Ok.hK (by assumption)).fNumber | exact (Cf.Ok.hK (by assumption)).fPlay | exact (Cf.Ok.hK (by assumption)).fWorth | exact (Cf.Ok.hK (by assumption)).fRoads | exact (Cf.Ok.hK (by assumption)).fInit | exact (Cf.Ok.hK (by assumption)).fRead | exact (Cf.Ok.hK (by assumption)).fGet | exact (Cf.Ok.hK (by assumption)).fPush))); rotate_left 2; (focus ((with_unfolding_all exact fun _ => rfl)))) | refine' Snd.mkl _ | refine' Snd.mkt _ | exact SndA.nil | refine' SndA.cons _ _ (by (with_unfolding_all exact fun _ => rfl)) | exact AOk.nil | refine' AOk.cons _ (by (with_unfolding_all exact fun _ => rfl)))))
  case h => exact h
theorem Wd.tell (W : Wd i j ln N b ws told) {v : Int} (hs : told.length + 1 + ws.length ≤ 1000) : Wd i j ln (N.set j (.lst (told.map .int ++ [.int v]))) b ws (told ++ [v]) := by
  obtain ⟨⟨cs, pb, e, r⟩, ht, pn, ne, _, lp, z, i0, j0⟩ := W
  refine ⟨⟨cs, pb, by rw [List.getElem?_set_ne (Ne.symm ne)]; exact e, r⟩, ?_, pn.set ⟨told ++ [v], by simp⟩, ne, by rw [List.length_append]; exact hs, lp, by rw [List.getElem?_set_ne j0]; exact z, i0, j0⟩
  rw [List.getElem?_set_self (List.getElem?_eq_some_iff.mp ht).1]; simp
theorem play_leaf (E : Env0 c) (hm : 6 ≤ m) {x : Nat} (L : LeafOk x) : PlayIH c m i j ln (.leaf x) := fun {f g lo hi told N b ws k} hw W h => by
  obtain ⟨⟨ok, hv⟩, _⟩ := leaf_ok L
  have hr := worth_range (.leaf x) L
  have h0 := hw.f0; have h1 := hw.lt; have h2 := hw.g1; have h9 := L.a; have h31 := L.d
  refine play_fn (c := c.wN m) (n := m - 1) E.O.wN (show m = m - 1 + 1 by (first | lia | omega)) (W.num (c := c) (m := m - 1) E (by (first | lia | omega)) ok fun N1 e1 W1 => ?_)
  rw [hv]
  refine CmpOk.eqI (TruOk.bool (cond_f (by rw [beq_eq_false_iff_ne]; (first | lia | omega)) (CmpOk.neI (TruOk.bool (cond_t (by rw [bne_iff_ne]; (first | lia | omega)) ?_)))))
  have hsz : told.length + 1 + ws.length ≤ 1000 := by have := W.sz; simp only [wordsT, List.length_append, List.length_cons, List.length_nil] at this; (first | lia | omega)
  refine ⟨GetOk.append W1.td, FnOk.append W1.td (by rw [List.length_map]; exact Nat.le_trans (show told.length ≤ 1000 by (first | lia | omega)) (by decide)) (BinOk.divI (by decide) (Flt.quot_fits (by decide) (by (first | lia | omega))) ?_)⟩
  rw [fl_div (by (first | lia | omega)) (by (first | lia | omega)), show ((x % 64 : Nat) : Int).toNat = x % 64 by (first | lia | omega)]
  refine BinOk.addF ?_
  rw [fl_add (by (first | lia | omega))]
  refine BinOk.addF ?_
  rw [fl_add (by (first | lia | omega))]
  refine FnOk.ofCall (hls_fn (c := c.wN (m - 1)) (n := m - 1 - 1) E.O.wN (show m - 1 = m - 1 - 1 + 1 by (first | lia | omega)) (a := f.toNat) (b := x % 64) (d := g.toNat) (by (first | lia | omega)) (by (first | lia | omega)) (by (first | lia | omega)) fun h' s => IdxOk.tup (i := 1) (show 3 ≤ sizeLine by decide) rfl (BinOk.mulF ?_))
  rw [show (4611686018427387904 : UInt64) = fl 128 by decide +kernel, fl_twice (by (first | lia | omega))]
  refine BinOk.subF ?_
  rw [fl_sub (by (first | lia | omega)) (by (first | lia | omega))]
  have ev : f.toNat + x % 64 + g.toNat - (max (max f.toNat (x % 64)) g.toNat + min (min f.toNat (x % 64)) g.toNat) = (midI f (worth (.leaf x)) g).toNat := by
    rw [mid3 (by (first | lia | omega)), Int.toNat_of_nonneg h0, Int.toNat_of_nonneg (by (first | lia | omega))]; rfl
  rw [ev]
  have ed : due (.leaf x) lo hi = [((x % 64 : Nat) : Int)] := by
    unfold due roadsT
    rw [Lt.iff.mpr hw.Lt]; rfl
  exact h _ true ((List.length_set ..).trans e1) (by rw [ed]; exact W1.tell hsz)
theorem play_neg (E : Env0 c) (hm : 6 ≤ m) {a : Tr} (wf : WFt a) (IH : PlayIH c (m - 1) i j ln a) : PlayIH c m i j ln (.neg a) := fun {f g lo hi told N b ws k} hw W h => by
  have hr := worth_range a wf
  have h0 := hw.f0; have h1 := hw.lt; have h2 := hw.g1
  refine play_fn (c := c.wN m) (n := m - 1) E.O.wN (show m = m - 1 + 1 by (first | lia | omega)) (Wd.num (c := c) (m := m - 1) (w := [126]) (ws := wordsT a ++ ws) E W (by (first | lia | omega)) w126.1 fun N1 e1 W1 => ?_)
  rw [w126.2]
  have e64 : (4607182418800017408 : UInt64) = fl 64 := by decide +kernel
  refine CmpOk.eqI (TruOk.bool (BinOk.subF ?_))
  rw [e64, fl_sub (by (first | lia | omega)) (by (first | lia | omega))]
  refine BinOk.subF ?_
  rw [fl_sub (by (first | lia | omega)) (by (first | lia | omega)), show 64 - g.toNat = (64 - g).toNat by (first | lia | omega), show 64 - f.toNat = (64 - f).toNat by (first | lia | omega)]
  refine FnOk.ofCall (IH hw.swap W1 fun N2 b2 e2 W2 => BinOk.subF ?_)
  have hm := mid_range (w := 64 - worth a) h1
  have ev : 64 - (midI (64 - g) (worth a) (64 - f)).toNat = (midI f (worth (.neg a)) g).toNat := by
    rw [mid_neg h1]
    show _ = (midI f (64 - worth a) g).toNat
    (first | lia | omega)
  rw [fl_sub (by rw [mid_neg h1]; (first | lia | omega)) (by (first | lia | omega)), ev]
  exact h N2 b2 (e2.trans e1) W2
theorem play_node (E : Env0 c) (hm : 6 ≤ m) {G : Bool} {qs : List Tr} {t : Tr} (hq : ∀ q ∈ qs, WFt q ∧ PlayIH c (m - 1) i j ln q) (hl : (qs.flatMap wordsT).length ≤ 800) (ew : wordsT t = [40] :: opS G :: (qs.flatMap wordsT ++ [[41]]))
    (ev : ∀ f g, f < g → valL G f g (qs.map worth) = midI f (worth t) g) (ed : ∀ lo hi, dueL G lo hi qs = due t lo hi) : PlayIH c m i j ln t := fun {f g lo hi told N b ws k} hw W h => by
  rw [ew, List.cons_append, List.cons_append, List.append_assoc] at W
  refine play_fn (c := c.wN m) (n := m - 1) E.O.wN (show m = m - 1 + 1 by (first | lia | omega)) (W.num (c := c) (m := m - 1) E (by (first | lia | omega)) w40.1 fun N1 e1 W1 => ?_)
  rw [w40.2]
  refine CmpOk.eqI (TruOk.bool (CmpOk.neI (TruOk.bool (W1.num (c := c) (m := m - 1) E (by (first | lia | omega)) (wop G).1 fun N2 e2 W2 => ?_))))
  rw [(wop G).2]
  refine Exists.intro (qs.length + 1) (loop_ok (c := c) (m := m - 1) (G := G) E (by (first | lia | omega)) qs f g lo hi told N2 true _ _ _ _ hw.g1 (.inl hw) hq hl W2 fun N3 b3 e3 W3 => ?_)
  rw [ev f g hw.lt]
  rw [ed] at W3
  exact h N3 b3 (e3.trans (e2.trans e1)) W3
theorem play_ok (E : Env0 c) : ∀ (t : Tr), WFt t → (wordsT t).length ≤ 800 → ∀ m, dep t + 6 ≤ m → PlayIH c m i j ln t
  | .leaf x, L, _, m, hm => play_leaf (m := m) E (by simp only [dep] at hm; (first | lia | omega)) L
  | .neg a, wf, hl, m, hm => play_neg (m := m) (a := a) E (by simp only [dep] at hm; (first | lia | omega)) wf (play_ok E a wf (Nat.le_of_succ_le hl) (m - 1) (by simp only [dep] at hm; (first | lia | omega)))
  | .two G a b, wf, hl, m, hm => by
    simp only [dep] at hm
    simp only [wordsT, List.cons_append, List.length_cons, List.length_append, List.length_nil] at hl
    refine play_node E (by (first | lia | omega)) (G := G) (qs := [a, b]) (List.forall_mem_cons.mpr ⟨⟨wf.1, play_ok E a wf.1 (by (first | lia | omega)) (m - 1) (by (first | lia | omega))⟩, List.forall_mem_singleton.mpr ⟨wf.2, play_ok E b wf.2 (by (first | lia | omega)) (m - 1) (by (first | lia | omega))⟩⟩) (by simp; (first | lia | omega)) (by simp [wordsT]) (fun f g hfg => ?_) fun lo hi => ?_
    · cases G <;> simp only [List.map_cons, List.map_nil, valL, worth, if_true, Bool.false_eq_true, if_false, mid_up, mid_dn, Int.max_assoc, Int.min_assoc]
    · rw [due_two]; cases G <;> simp [dueL]
  | .three G a b d, wf, hl, m, hm => by
    simp only [dep] at hm
    simp only [wordsT, List.cons_append, List.length_cons, List.length_append, List.length_nil] at hl
    refine play_node E (by (first | lia | omega)) (G := G) (qs := [a, b, d]) (List.forall_mem_cons.mpr ⟨⟨wf.1, play_ok E a wf.1 (by (first | lia | omega)) (m - 1) (by (first | lia | omega))⟩, List.forall_mem_cons.mpr ⟨⟨wf.2.1, play_ok E b wf.2.1 (by (first | lia | omega)) (m - 1) (by (first | lia | omega))⟩, List.forall_mem_singleton.mpr ⟨wf.2.2, play_ok E d wf.2.2 (by (first | lia | omega)) (m - 1) (by (first | lia | omega))⟩⟩⟩) (by simp; (first | lia | omega)) (by simp [wordsT]) (fun f g hfg => ?_) fun lo hi => ?_
    · cases G <;> simp only [List.map_cons, List.map_nil, valL, worth, if_true, Bool.false_eq_true, if_false, mid_up, mid_dn, Int.max_assoc, Int.min_assoc]
    · rw [due_three]; cases G <;> simp [dueL]
end
end

noncomputable section
-- what is spelled reads back
noncomputable def Clean (w : List Nat) : Prop := w ≠ [] ∧ w.head? ≠ some 34 ∧ ∀ a ∈ w, isW a = false
section
variable {p : Nat → Bool} {c d s : Nat} {r : List Nat}
theorem run_c (h : p c = false) (h2 : c ≠ 92) : run p (c :: r) = (c :: (run p r).1, (run p r).2) := by
  conv => lhs; unfold run
  rw [h, if_neg Bool.false_ne_true, if_neg h2]
theorem run_e (h : p 92 = false) : run p (92 :: d :: r) = (d :: (run p r).1, (run p r).2) := by
  conv => lhs; unfold run
  rw [h, if_neg Bool.false_ne_true, if_pos rfl]
theorem run_end (h : p s = true) : run p (s :: r) = ([], r) := by
  conv => lhs; unfold run
  rw [if_pos h]
theorem run_ce {w t : List Nat} (h : p c = false) (h2 : c ≠ 92) (ih : run p r = (w, t)) : run p (c :: r) = (c :: w, t) := by rw [run_c h h2, ih]
theorem run_ee {w t : List Nat} (h : p 92 = false) (ih : run p r = (w, t)) : run p (92 :: d :: r) = (d :: w, t) := by rw [run_e h, ih]
theorem run_dbs (hs : isW s = true) : ∀ w : List Nat, (∀ a ∈ w, isW a = false) → run isW (dbs w ++ s :: r) = (w, r)
  | [], _ => run_end hs
  | c :: w, h => by
    have ih := run_dbs hs w fun a m => h a (.tail _ m)
    have hc := h c (.head _)
    unfold dbs rep at ih ⊢
    rw [List.flatMap_cons]
    by_cases e : c = 92
    · subst e
      exact run_ee rfl ih
    · rw [if_neg e]
      exact run_ce hc e ih
theorem run_esc (hs : isW s = true) : ∀ w : List Nat, run isW ((w.flatMap fun x => [92, x]) ++ s :: r) = (w, r)
  | [] => run_end hs
  | c :: w => run_ee rfl (run_esc hs w)
theorem quo_dq : ∀ w : List Nat, run isQ (rep 34 [92, 34] (dbs w) ++ 34 :: r) = (w, r)
  | [] => run_end rfl
  | c :: w => by
    have ih := quo_dq w
    unfold dbs rep at ih ⊢
    rw [List.flatMap_cons, List.flatMap_append]
    by_cases e : c = 92
    · subst e
      exact run_ee rfl ih
    · rw [if_neg e]
      by_cases e3 : c = 34
      · subst e3
        exact run_ee rfl ih
      · rw [show ([c] : List Nat).flatMap (fun k => if k = 34 then [92, 34] else [k]) = [c] from by rw [List.flatMap_cons, if_neg e3]; rfl]
        exact run_ce (beq_eq_false_iff_ne.mpr e3) e ih
theorem tok_skip (hs : isW s = true) : tok (s :: r) = tok r := by
  conv => lhs; unfold tok
  rw [if_pos hs]
theorem tok_u (h : isW c = false) (h3 : c ≠ 34) : tok (c :: r) = run isW (c :: r) := by
  conv => lhs; unfold tok
  rw [h, if_neg Bool.false_ne_true, if_neg h3]
theorem tok_q : tok (34 :: r) = run isQ r := rfl
end
theorem sep_W (m : Nat) : isW (sepOf m) = true := by
  unfold sepOf
  have h : m % 4 < 4 := Nat.mod_lt _ (by decide)
  generalize m % 4 = i at h
  rcases (show i = 0 ∨ i = 1 ∨ i = 2 ∨ i = 3 by (first | lia | omega)) with rfl | rfl | rfl | rfl <;> rfl
theorem tok_spell {m : Nat} {w r : List Nat} (h : Clean w) : ∃ r', tok (spellW m w ++ sepOf m :: r) = (w, r') ∧ (r' = r ∨ r' = sepOf m :: r) := by
  obtain ⟨hn, h34, hw⟩ := h
  unfold spellW
  by_cases h0 : m % 3 = 0
  · rw [if_pos h0]
    refine ⟨r, ?_, .inl rfl⟩
    rw [← run_dbs (r := r) (sep_W m) w hw]
    cases w with
    | nil => exact absurd rfl hn
    | cons c w =>
      have hc := hw c (.head _)
      have h3 : c ≠ 34 := fun e => h34 (by rw [e]; rfl)
      unfold dbs rep
      rw [List.flatMap_cons]
      by_cases e : c = 92
      · subst e; rw [if_pos rfl]; exact tok_u (by decide) (by decide)
      · rw [if_neg e]; exact tok_u hc h3
  · rw [if_neg h0]
    by_cases h1 : m % 3 = 1
    · rw [if_pos h1]
      refine ⟨_, ?_, .inr rfl⟩
      rw [List.append_assoc]
      show tok (34 :: _) = _
      conv => lhs; unfold tok
      rw [if_neg (by decide), if_pos rfl]
      exact quo_dq w
    · rw [if_neg h1]
      refine ⟨r, ?_, .inl rfl⟩
      rw [← run_esc (r := r) (sep_W m) w]
      cases w with
      | nil => exact absurd rfl hn
      | cons c w => rw [List.flatMap_cons]; exact tok_u (by decide) (by decide)
theorem Rd_skip {s : Nat} {cs : List Nat} (hs : isW s = true) : ∀ {ws : List (List Nat)}, Rd cs ws → Rd (s :: cs) ws
  | [], h => (tok_skip hs).trans h
  | w :: ws, h => by unfold Rd at h ⊢; rw [tok_skip hs]; exact h
theorem Rd_spell : ∀ (ws : List (List Nat)) (m : Nat), (∀ w ∈ ws, Clean w) → Rd (spell m ws) ws
  | [], _, _ => rfl
  | w :: ws, m, h => by
    have ih := Rd_spell ws (m + 1) fun v hv => h v (.tail _ hv)
    obtain ⟨r', e, hr⟩ := tok_spell (m := m) (r := spell (m + 1) ws) (h w (.head _))
    show (tok (spellW m w ++ sepOf m :: spell (m + 1) ws)).1 = w ∧ Rd (tok (spellW m w ++ sepOf m :: spell (m + 1) ws)).2 ws
    rw [e]
    refine ⟨rfl, ?_⟩
    rcases hr with rfl | rfl
    · exact ih
    · exact Rd_skip (sep_W m) ih
noncomputable def cleanB (w : List Nat) : Bool := w != [] && w.head? != some 34 && w.all fun a => !isW a
theorem cleanB_ok {w : List Nat} (h : cleanB w = true) : Clean w := by
  simp only [cleanB, Bool.and_eq_true, bne_iff_ne, List.all_eq_true, Bool.not_eq_true'] at h
  exact ⟨h.1.1, h.1.2, h.2⟩
theorem clean_tab : ((List.range 46).all fun a => (List.range 6).all fun i => cleanB (signOf (a + 9) ++ riderOf i)) = true := by decide +kernel
theorem words_Clean : ∀ t : Tr, WFt t → ∀ w ∈ wordsT t, Clean w
  | .leaf x, L => List.forall_mem_singleton.mpr (by
    have h1 := L.a; have h2 := L.b; have h4 := L.e
    have t := List.all_eq_true.mp (List.all_eq_true.mp clean_tab (x % 64 - 9) (List.mem_range.mpr (by (first | lia | omega)))) (x / 64) (List.mem_range.mpr (by (first | lia | omega)))
    rw [show x % 64 - 9 + 9 = x % 64 by (first | lia | omega)] at t
    exact cleanB_ok t)
  | .neg a, h => List.forall_mem_cons.mpr ⟨cleanB_ok (by decide), words_Clean a h⟩
  | .two g a b, h => fun w m => by
    simp only [wordsT, List.cons_append, List.mem_cons, List.mem_append, List.not_mem_nil, or_false] at m
    rcases m with rfl | rfl | (m | m) | rfl
    · exact cleanB_ok (by decide)
    · cases g <;> exact cleanB_ok (by decide)
    · exact words_Clean a h.1 w m
    · exact words_Clean b h.2 w m
    · exact cleanB_ok (by decide)
  | .three g a b d, h => fun w m => by
    simp only [wordsT, List.cons_append, List.mem_cons, List.mem_append, List.not_mem_nil, or_false] at m
    rcases m with rfl | rfl | (m | m | m) | rfl
    · exact cleanB_ok (by decide)
    · cases g <;> exact cleanB_ok (by decide)
    · exact words_Clean a h.1 w m
    · exact words_Clean b h.2.1 w m
    · exact words_Clean d h.2.2 w m
    · exact cleanB_ok (by decide)
end

noncomputable section
-- what _law_tree builds
theorem leaf_LeafOk (x : Int) : LeafOk (leafV x).toNat := by
  have h1 := fmod_nn (x := x) (m := 45) (by decide)
  have h2 := fmod_nn (x := x.fdiv 45) (m := 6) (by decide)
  have e : ∃ a : Nat, 9 ≤ a ∧ a ≤ 54 ∧ a ≠ 31 ∧ leafV x = a + 64 * (x.fdiv 45).fmod 6 := by
    unfold leafV
    by_cases h : x.fmod 45 < 22
    · exact ⟨(9 + x.fmod 45).toNat, by (first | lia | omega), by (first | lia | omega), by (first | lia | omega), by rw [if_pos h]; (first | lia | omega)⟩
    · exact ⟨(10 + x.fmod 45).toNat, by (first | lia | omega), by (first | lia | omega), by (first | lia | omega), by rw [if_neg h]; (first | lia | omega)⟩
  obtain ⟨a, ha, hb, hc, e⟩ := e
  rw [e]
  generalize (x.fdiv 45).fmod 6 = r at h2
  obtain ⟨r, rfl⟩ := Int.eq_ofNat_of_zero_le h2.1
  have e2 : ((a : Int) + 64 * (r : Nat)).toNat = a + 64 * r := by (first | lia | omega)
  rw [e2]
  exact ⟨by (first | lia | omega), by (first | lia | omega), by (first | lia | omega), by (first | lia | omega)⟩
theorem cut_sum (F : Tr → Nat) (ts : List Tr) {a b : Nat} (h : a ≤ b) : ((ts.take a).map F).sum + (((ts.drop a).take (b - a)).map F).sum + ((ts.drop b).map F).sum = (ts.map F).sum := by
  have e1 := List.take_append_drop a ts
  have e2 := List.take_append_drop (b - a) (ts.drop a)
  rw [List.drop_drop, show a + (b - a) = b by (first | lia | omega)] at e2
  conv => rhs; rw [← e1, ← e2]
  simp only [List.map_append, List.sum_append]
  (first | lia | omega)
theorem node_F {F : Tr → Nat} {e : Nat} {x : Int} {ts : List Tr} (h : 1 < ts.length) (h2 : ∀ g a b, F (.two g a b) + e ≤ F a + F b + 4 ∧ F (.neg (.two g a b)) + e ≤ F a + F b + 4) (h3 : ∀ g a b d, F (.three g a b d) + e ≤ F a + F b + F d + 4 ∧ F (.neg (.three g a b d)) + e ≤ F a + F b + F d + 4) :
    F (nodeOf x ts) + e ≤ (((ts.drop (atOf x ts)).take (behOf x ts - atOf x ts)).map F).sum + 4 := by
  unfold nodeOf
  obtain ⟨a, b, q | ⟨d, q⟩⟩ := mid_len (x := x) h
  · rw [q]
    have := h2 ((x.fdiv 3).fmod 2 == 1) a b
    simp only [mk3, List.map_cons, List.map_nil, List.sum_cons, List.sum_nil]
    split
    · exact Nat.le_trans this.2 (by (first | lia | omega))
    · exact Nat.le_trans this.1 (by (first | lia | omega))
  · rw [q]
    have := h3 ((x.fdiv 3).fmod 2 == 1) a b d
    simp only [mk3, List.map_cons, List.map_nil, List.sum_cons, List.sum_nil]
    split
    · exact Nat.le_trans this.2 (by (first | lia | omega))
    · exact Nat.le_trans this.1 (by (first | lia | omega))
theorem step_F {F : Tr → Nat} {e : Nat} {x : Int} {ts : List Tr} (he : e ≤ 4) (h2 : ∀ g a b, F (.two g a b) + e ≤ F a + F b + 4 ∧ F (.neg (.two g a b)) + e ≤ F a + F b + 4) (h3 : ∀ g a b d, F (.three g a b d) + e ≤ F a + F b + F d + 4 ∧ F (.neg (.three g a b d)) + e ≤ F a + F b + F d + 4) :
    ((stepT ts x).map F).sum + e ≤ (ts.map F).sum + 4 := by
  unfold stepT
  by_cases h : 1 < ts.length
  · rw [if_pos h, List.map_append, List.map_append, List.sum_append, List.sum_append]
    have hn := node_F (x := x) h h2 h3
    have hc := cut_sum F ts (a := atOf x ts) (b := behOf x ts) (by unfold behOf; (first | lia | omega))
    simp only [List.map_cons, List.map_nil, List.sum_cons, List.sum_nil]
    (first | lia | omega)
  · rw [if_neg h]; (first | lia | omega)
structure TI (n : Nat) (ts : List Tr) : Prop where
  w : ∀ t ∈ ts, WFt t ∧ dep t ≤ 2 * n
  a : (ts.map fun t => (wordsT t).length).sum ≤ 7 + 4 * n
  l : (ts.map lvs).sum ≤ 7
theorem TI.step {n : Nat} {ts : List Tr} (T : TI n ts) (x : Int) : TI (n + 1) (stepT ts x) := by
  refine ⟨fun t m => ?_, ?_, ?_⟩
  · unfold stepT at m
    by_cases h : 1 < ts.length
    · rw [if_pos h, List.mem_append, List.mem_append, List.mem_singleton] at m
      rcases m with (m | rfl) | m
      · have := T.w t (List.mem_of_mem_take m); exact ⟨this.1, by (first | lia | omega)⟩
      · have hm : ∀ t ∈ (ts.drop (atOf x ts)).take (behOf x ts - atOf x ts), WFt t ∧ dep t ≤ 2 * n := fun t m => T.w t (List.mem_of_mem_drop (List.mem_of_mem_take m))
        unfold nodeOf
        obtain ⟨a, b, q | ⟨d, q⟩⟩ := mid_len (x := x) h
        · rw [q] at hm ⊢
          have ha := hm a (.head _); have hb := hm b (.tail _ (.head _))
          simp only [mk3]
          split
          · exact ⟨⟨ha.1, hb.1⟩, by simp only [dep]; (first | lia | omega)⟩
          · exact ⟨⟨ha.1, hb.1⟩, by simp only [dep]; (first | lia | omega)⟩
        · rw [q] at hm ⊢
          have ha := hm a (.head _); have hb := hm b (.tail _ (.head _)); have hd := hm d (.tail _ (.tail _ (.head _)))
          simp only [mk3]
          split
          · exact ⟨⟨ha.1, hb.1, hd.1⟩, by simp only [dep]; (first | lia | omega)⟩
          · exact ⟨⟨ha.1, hb.1, hd.1⟩, by simp only [dep]; (first | lia | omega)⟩
      · have := T.w t (List.mem_of_mem_drop m); exact ⟨this.1, by (first | lia | omega)⟩
    · rw [if_neg h] at m; have := T.w t m; exact ⟨this.1, by (first | lia | omega)⟩
  · have := step_F (F := fun t => (wordsT t).length) (e := 0) (x := x) (ts := ts) (by decide) (fun g a b => by simp [wordsT]; (first | lia | omega)) (fun g a b d => by simp [wordsT]; (first | lia | omega))
    have := T.a
    (first | lia | omega)
  · have := step_F (F := lvs) (e := 4) (x := x) (ts := ts) (by decide) (fun g a b => by simp [lvs]) (fun g a b d => by simp [lvs])
    have := T.l
    (first | lia | omega)
theorem TI.fold : ∀ (xs : List Int) {n : Nat} {ts : List Tr}, TI n ts → TI (n + xs.length) (xs.foldl stepT ts)
  | [], _, _, h => h
  | x :: r, n, _, h => by
    have := TI.fold r (h.step x)
    rw [List.length_cons, show n + (r.length + 1) = n + 1 + r.length by (first | lia | omega)]; exact this
theorem tree_TI {xs : List Int} (h : xs.length = 7) : TI 7 (treeL xs) := by
  have one : ∀ xs : List Int, (xs.map fun _ => 1).sum = xs.length := fun xs => by
    induction xs with
    | nil => rfl
    | cons _ _ ih => rw [List.map_cons, List.sum_cons, ih, List.length_cons]; (first | lia | omega)
  have h0 : TI 0 (xs.map fun x => Tr.leaf (leafV x).toNat) := by
    refine ⟨fun t m => ?_, ?_, ?_⟩
    · obtain ⟨x, _, rfl⟩ := List.mem_map.mp m; exact ⟨leaf_LeafOk x, Nat.le_refl _⟩
    · rw [List.map_map, show ((fun t => (wordsT t).length) ∘ fun x => Tr.leaf (leafV x).toNat) = fun _ => 1 from rfl, one, h]
      decide
    · rw [List.map_map, show (lvs ∘ fun x => Tr.leaf (leafV x).toNat) = fun _ => 1 from rfl, one, h]
      decide
  have := TI.fold xs h0
  rw [h] at this; exact this
theorem sum_mem {F : Tr → Nat} : ∀ {ts : List Tr} {t : Tr}, t ∈ ts → F t ≤ (ts.map F).sum
  | _ :: _, _, .head _ => by simp
  | _ :: ts, _, .tail _ m => by have := sum_mem (F := F) m; simp; (first | lia | omega)
structure TreeOk (t : Tr) : Prop where
  w : WFt t
  d : dep t ≤ 14
  a : (wordsT t).length ≤ 35
  l : lvs t ≤ 7
theorem tree_ok {xs : List Int} (h : xs.length = 7) {t : Tr} (ht : (treeL xs)[0]? = some t) : TreeOk t := by
  have T := tree_TI h
  have m := List.mem_of_getElem? ht
  have := T.a; have := T.l
  have h1 := sum_mem (F := fun t => (wordsT t).length) m
  have h2 := sum_mem (F := lvs) m
  exact ⟨(T.w t m).1, (T.w t m).2, by (first | lia | omega), by (first | lia | omega)⟩
end

noncomputable section
theorem count_cnt' (l : List Nat) : ((l.count 10 : Nat) : Int) = Txt.count ⟨l.toArray⟩ (Str.ofString "\n") := by
  rw [show Str.ofString "\n" = ⟨#[10]⟩ by decide +kernel, count_cnt]
  show _ = cnt 10 l
  induction l with
  | nil => rfl
  | cons n r ih =>
    rw [cnt_cons, ← ih, List.count_cons]
    by_cases h : n = 10
    · subst h; simp; (first | lia | omega)
    · simp [h]
theorem mid_sorted {f w g : Int} (h : f < g) {ms : List Int} (hp : ms.Perm [f, w, g]) (hs : ms.Pairwise (· ≤ ·)) : ms[1]? = some (midI f w g) := by
  have uq : ∀ l : List Int, l.Perm [f, w, g] → l.Pairwise (· ≤ ·) → ms = l := fun l p s => List.Perm.eq_of_pairwise (le := (· ≤ ·)) (fun a b _ _ => Int.le_antisymm) hs s (hp.trans p.symm)
  by_cases h1 : w ≤ f
  · rw [uq [w, f, g] (List.Perm.swap ..) (by simp; (first | lia | omega))]
    show some f = _
    congr 1; unfold midI; (first | lia | omega)
  · by_cases h2 : w ≤ g
    · rw [uq [f, w, g] (List.Perm.refl _) (by simp; (first | lia | omega))]
      show some w = _
      congr 1; unfold midI; (first | lia | omega)
    · rw [uq [f, g, w] ((List.Perm.swap ..).cons _) (by simp; (first | lia | omega))]
      show some g = _
      congr 1; unfold midI; (first | lia | omega)
structure LexMk (c : Cf) : Prop where
  make : ∀ {m N k t}, 5 ≤ m → PN N → N[0]? = some (.lex [] [] 0) → t.length ≤ 500000 → (∀ N', PN N' → N'.length = N.length → N'[0]? = some (.lex [] [] (-1)) → k (.ob N'.length) (N' ++ [.lex t [] (1 + (t.count 10 : Nat))])) → CallOk (c.wN m) 127 [sD t] N k
@[reducible] noncomputable def P70 : Pm := ⟨scopeOf (stAt 70), [Str.ofString "script", Str.ofString "numbers", Str.ofString "total", Str.ofString "tree", Str.ofString "floor", Str.ofString "ceiling", Str.ofString "text", Str.ofString "lexer", Str.ofString "told", Str.ofString "answer", Str.ofString "due", Str.ofString "word"],
  [Str.ofString "len", Str.ofString "sum", Str.ofString "_law_tree", Str.ofString "_law_spelled", Str.ofString "_law_words", Str.ofString "_law_lexer", Str.ofString "_law_play", Str.ofString "_law_roads", Str.ofString "sorted", Str.ofString "_law_worth", Str.ofString "ISEOF", Str.ofString "_law_number"]⟩
theorem ok70 : P70.Ok := .of (by kernel_rfl) (by decide +kernel) (by decide +kernel) (by decide +kernel)
theorem pl70 : Plain (stAt 70) := ⟨by kernel_rfl, by kernel_rfl, by decide +kernel⟩
section
variable {c : Cf} {N : List OD} {k : Kt} {n : Nat}
theorem AttOk.lno (O : c.Ok) {i : Nat} {cs : List Nat} {pb : List Str} {ln : Int} (e : N[i]? = some (.lex cs pb ln)) (h0 : 0 < ln) (hk : k (.int (ln - (cs.count 10 : Nat))) N) : AttOk c (.ob i) (Str.ofString "lineno") N k := fun x v b G i' => by
  obtain ⟨a, r, rfl, hz⟩ := i'.ob'
  obtain ⟨m, F, _⟩ := G.S.fr
  exact O.HL.lno (ge := x.ge) (dr := x.dr) (os := x.os) (tk := x.tk) F G.C.X (G.S.lg.obs _ _ _ e hz) h0 rfl fun t tk' => .mkT G .int hk
theorem compG_due : ∀ (rs : List (Int × Bool)) (acc : List Int), acc.length + rs.length ≤ 1000000 → k (.lst ((acc ++ (rs.filter (·.2)).map (·.1)).map .int)) N → compG true (tVal (eLoc 1) c) (eLoc 0 c) (rs.map rdD) (acc.map .int) N k
  | [], acc, _, h => by simpa [compG] using h
  | (v, b) :: rs, acc, hl, h => by
    rw [List.length_cons] at hl
    refine ⟨by rw [List.length_map]; (first | lia | omega), _, .inr ⟨_, _, rfl, rfl, rfl⟩, TruOk.bool ?_⟩
    cases b with
    | false => exact compG_due rs acc (by (first | lia | omega)) h
    | true =>
      have := compG_due rs (acc ++ [v]) (by rw [List.length_append]; simp only [List.length_cons, List.length_nil]; (first | lia | omega)) (by simpa using h)
      rw [List.map_append] at this
      exact this
theorem law_fn (E : Env0 c) (M : LexMk c) (FK : FnK c.K 154 (stAt 70) (Str.ofString "law") 153) {n : Nat} (hn : c.n = n + 1) (h40 : 40 ≤ n) (pn : PN N) (h0 : N[0]? = some (.lex [] [] 0)) {xs : List Int} (hx : xs.length ≤ 100) (hk : ∀ N, N[0]? = some (.lex [] [] (-1)) → k (.bool true) N) : CallOk c 154 [.lst (xs.map .int)] N k := by
  refine' enterX (P := P70) (m := 1) hn FK rfl ok70 pl70 rfl (by decide) ?b (by conv => lhs; whnf) ?s ?h
  case b => intro vs hv; intros; rcases vs with _ | ⟨a, _ | _⟩ <;> first | (simp at hv; done) | kernel_rfl
  case s =>
    have O := E.O.wN (n := n)
    refine' SndS.asg (by ((with_reducible (repeat (first | exact Slot.hd | apply Slot.tl))))) _ (by (with_unfolding_all exact fun _ => rfl)) (SndS.asg (by ((with_reducible (repeat (first | exact Slot.hd | apply Slot.tl))))) _ (by (with_unfolding_all exact fun _ => rfl)) (SndS.asg (by ((with_reducible (repeat (first | exact Slot.hd | apply Slot.tl))))) _ (by (with_unfolding_all exact fun _ => rfl)) (SndS.asg (by ((with_reducible (repeat (first | exact Slot.hd | apply Slot.tl))))) _ (by (with_unfolding_all exact fun _ => rfl)) (SndS.asg (by ((with_reducible (repeat (first | exact Slot.hd | apply Slot.tl))))) _ (by (with_unfolding_all exact fun _ => rfl)) (SndS.asg (by ((with_reducible (repeat (first | exact Slot.hd | apply Slot.tl))))) _ (by (with_unfolding_all exact fun _ => rfl))
      (SndS.asg (by ((with_reducible (repeat (first | exact Slot.hd | apply Slot.tl))))) _ (by (with_unfolding_all exact fun _ => rfl)) (SndS.asg (by ((with_reducible (repeat (first | exact Slot.hd | apply Slot.tl))))) Snd.newl (by (with_unfolding_all exact fun _ => rfl)) (SndS.asg (by ((with_reducible (repeat (first | exact Slot.hd | apply Slot.tl))))) _ (by (with_unfolding_all exact fun _ => rfl)) (SndS.asgC (by ((with_reducible (repeat (first | exact Slot.hd | apply Slot.tl))))) (CmpB.two (P' := ⟨_, [Str.ofString "number", Str.ofString "seen"], []⟩) _ rfl (.of rfl (by decide +kernel) (by decide +kernel) (by decide +kernel)) (.of (by decide +kernel) rfl) _ _) (.of (by decide +kernel) rfl) (by (with_unfolding_all exact fun _ _ => rfl)) (fun env e => sw_of e ok70 (by simp) rfl (by decide +kernel)) _)))))))))
    repeat (any_goals ((with_reducible first | exact SndS.nil | refine' SndS.ret _ | refine' SndS.asg (by ((with_reducible (repeat (first | exact Slot.hd | apply Slot.tl))))) _ (by (with_unfolding_all exact fun _ => rfl)) _ | refine' SndS.aug (by ((with_reducible (repeat (first | exact Slot.hd | apply Slot.tl))))) _ _ | refine' SndS.iff _ _ _ _ | refine' SndS.exp _ (by (with_unfolding_all exact fun _ => rfl)) _ | (refine' SndS.forE (by assumption) (by assumption) (by ((with_reducible (repeat (first | exact Slot.hd | apply Slot.tl))))) (by ((with_reducible (repeat (first | exact Slot.hd | apply Slot.tl))))) (by ((with_reducible (repeat (first | exact Slot.hd | apply Slot.tl))))) _ (by (with_unfolding_all exact fun _ => rfl)) (by (with_unfolding_all exact fun _ => rfl)) _ _) | refine' SndS.allB (fun _ _ => _) (by assumption) | refine' SndC.allB (fun _ _ => _) (by assumption) | refine' Snd.allB (fun _ _ => _) (by assumption) | refine' SndS.for1 (by ((with_reducible (repeat (first | exact Slot.hd | apply Slot.tl))))) _ (by (with_unfolding_all exact fun _ _ => rfl)) _ _ | refine' SndS.wh _ _ _ | refine' SndC.cmp _ _ (by with_unfolding_all rfl) | refine' SndC.nt _ | refine' SndC.or _ _ | refine' SndC.val _ (by (with_unfolding_all exact fun _ _ => rfl)) | exact Snd.cint | exact Snd.cstr | exact Snd.cnone | exact Snd.cbool | exact Snd.cflt | (apply Snd.loc; (focus (((with_reducible (repeat (first | exact Slot.hd | apply Slot.tl)))); done))) | (apply Snd.glo; (focus assumption); (focus (((with_reducible (repeat (first | exact Slot.hd | apply Slot.tl)))); done)); (focus ((with_reducible (repeat (first | exact At.hd | apply At.tl))); done))) | (apply Snd.blt; (focus assumption); (focus (((with_reducible (repeat (first | exact Slot.hd | apply Slot.tl)))); done)); (focus ((with_reducible (repeat (first | exact At.hd | apply At.tl))); done)); (focus ((with_reducible (repeat (first | exact At.hd | apply At.tl))); done))) | refine' Snd.bin _ _ | refine' Snd.cmp _ _ (by with_unfolding_all rfl) | refine' Snd.see _ _ _ | refine' Snd.sen _ _ | refine' Snd.sne _ _ | refine' Snd.idx _ _ (by (with_unfolding_all exact fun _ _ => rfl)) | refine' Snd.att _ (by (with_unfolding_all exact fun _ => rfl)) | refine' Snd.ite _ _ _ | refine' Snd.and _ _ | refine' Snd.and1 _ | refine' Snd.meth (n := Str.ofString "get_token") (f := .ref 77) _ _ _ (.inr (.inr (Cf.Ok.hK (by assumption)).fGet.keep)) (by intro _; exact ⟨_, by with_unfolding_all rfl⟩) | refine' Snd.meth (n := Str.ofString "push_token") (f := .ref 84) _ _ _ (.inr (.inr (Cf.Ok.hK (by assumption)).fPush.keep)) (by intro _; exact ⟨_, by with_unfolding_all rfl⟩) | refine' Snd.meth (n := Str.ofString "append") (f := .builtin "list.append") _ _ _ (.inl ⟨_, rfl⟩) (by intro _; exact ⟨_, by with_unfolding_all rfl⟩) | refine' Snd.meth (n := Str.ofString "count") (f := .builtin "str.count") _ _ _ (.inl ⟨_, rfl⟩) (by intro _; exact ⟨_, by with_unfolding_all rfl⟩) | refine' Snd.meth (n := Str.ofString "split") (f := .builtin "str.split") _ _ _ (.inl ⟨_, rfl⟩) (by intro _; exact ⟨_, by with_unfolding_all rfl⟩) | refine' Snd.meth (n := Str.ofString "join") (f := .builtin "str.join") _ _ _ (.inl ⟨_, rfl⟩) (by intro _; exact ⟨_, by with_unfolding_all rfl⟩) | refine' Snd.meth (n := Str.ofString "get") (f := .builtin "dict.get") _ _ _ (.inl ⟨_, rfl⟩) (by intro _; exact ⟨_, by with_unfolding_all rfl⟩) | (apply Snd.callB; (focus (apply Snd.blt; (focus assumption); (focus (((with_reducible (repeat (first | exact Slot.hd | apply Slot.tl)))); done)); (focus ((with_reducible (repeat (first | exact At.hd | apply At.tl))); done)); (focus ((with_reducible (repeat (first | exact At.hd | apply At.tl))); done)))); rotate_left 2; (focus ((with_unfolding_all exact fun _ => rfl)))) | (apply Snd.callT; (focus (apply Snd.blt; (focus assumption); (focus (((with_reducible (repeat (first | exact Slot.hd | apply Slot.tl)))); done)); (focus ((with_reducible (repeat (first | exact At.hd | apply At.tl))); done)); (focus ((with_reducible (repeat (first | exact At.hd | apply At.tl))); done)))); rotate_left 2; (focus ((with_unfolding_all exact fun _ => rfl)))) | (apply Snd.callF; (focus assumption); (focus (apply Snd.glo; (focus assumption); (focus (((with_reducible (repeat (first | exact Slot.hd | apply Slot.tl)))); done)); (focus ((with_reducible (repeat (first | exact At.hd | apply At.tl))); done)))); (focus ((first | exact (Cf.Ok.hK (by assumption)).fHls | exact (Cf.Ok.hK (by assumption)).fHsv | exact (Cf.Ok.hK (by assumption)).fIter | exact (Cf.Ok.hK (by assumption)).fStrip | exact (Cf.Ok.hK (by assumption)).fCheck | exact (Cf.Ok.hK (by assumption)).fIseof | exact (Cf.Ok.hK (by assumption)).fTree | exact (Cf.Ok.hK (by assumption)).fWords | exact (Cf.Ok.hK (by assumption)).fSpelled | exact (Cf.Ok.hK (by assumption)).fLexer | exact (Cf.Ok.hK (by assumption)).fNumber | exact (Cf.Ok.hK (by assumption)).fPlay | exact (Cf.Ok.hK (by assumption)).fWorth | exact (Cf.Ok.hK (by assumption)).fRoads | exact (Cf.Ok.hK (by assumption)).fInit | exact (Cf.Ok.hK (by assumption)).fRead | exact (Cf.Ok.hK (by assumption)).fGet | exact (Cf.Ok.hK (by assumption)).fPush))); rotate_left 2; (focus ((with_unfolding_all exact fun _ => rfl)))) | refine' Snd.mkl _ | refine' Snd.mkt _ | exact SndA.nil | refine' SndA.cons _ _ (by (with_unfolding_all exact fun _ => rfl)) | exact AOk.nil | refine' AOk.cons _ (by (with_unfolding_all exact fun _ => rfl)))))
  case h =>
    have sz : ∀ {m : Nat}, m ≤ 2000 → m ≤ sizeLine := fun h => Nat.le_trans h (by decide)
    have lx : (xs.map D.int).length ≤ sizeLine := by rw [List.length_map]; exact sz (by (first | lia | omega))
    refine SlOk.ne (j := 7) (.inl rfl) lx ⟨(show 7 ≤ sizeLine by decide), SlOk.ne (j := 7) (.inl rfl) lx (FnOk.lenL (.inl rfl) (by rw [List.length_take, List.length_map]; exact sz (by (first | lia | omega))) (SlOk.en (.inl rfl) (show 7 ≤ sizeLine by decide) (BinOk.addL ?_ ?_)))⟩
    · rw [List.length_take, List.length_drop, List.length_map]; exact sz (show _ + (7 - _) ≤ _ by (first | lia | omega))
    have e7 : (xs.map D.int).take 7 ++ ([.int 102, .int 143, .int 50, .int 22, .int 200, .int 230, .int 100] : List D).drop ((xs.map D.int).take 7).length = (xs.take 7 ++ ([102, 143, 50, 22, 200, 230, 100] : List Int).drop (xs.take 7).length).map .int := by
      rw [List.map_append, List.map_drop, ← List.map_take, List.length_map]; rfl
    have l7 : (xs.take 7 ++ ([102, 143, 50, 22, 200, 230, 100] : List Int).drop (xs.take 7).length).length = 7 := by
      rw [List.length_append, List.length_drop, List.length_take]; show _ + (7 - _) = 7; (first | lia | omega)
    rw [e7]
    generalize xs.take 7 ++ ([102, 143, 50, 22, 200, 230, 100] : List Int).drop (xs.take 7).length = nums at l7
    refine FnOk.sum (.inl rfl) (FnOk.ofCall (tree_fn (c := c.wN n) (n := n - 1) E.O.wN (show n = n - 1 + 1 by (first | lia | omega)) (by (first | lia | omega)) (by (first | lia | omega)) fun t ht => ?_))
    have T := tree_ok l7 ht
    have pn1 : PN (N ++ [.lst (nums.map fun x => .int (leafV x))]) := fun od m => by
      rcases List.mem_append.mp m with m | m
      · exact pn od m
      · rw [List.mem_singleton.mp m]; exact ⟨nums.map leafV, by rw [List.map_map]; rfl⟩
    have h01 : (N ++ [OD.lst (nums.map fun x => .int (leafV x))])[0]? = some (.lex [] [] 0) := by rw [List.getElem?_append_left (List.getElem?_eq_some_iff.mp h0).1]; exact h0
    generalize N ++ [.lst (nums.map fun x => .int (leafV x))] = N0 at pn1 h01
    generalize nums.sum = tot
    clear ht l7 e7
    have f1 := fmod_nn (x := tot) (m := 20) (by decide)
    have f2 := fmod_nn (x := tot.fdiv 20) (m := 20) (by decide)
    have f3 := fmod_nn (x := tot) (m := 12) (by decide)
    refine BinOk.modI (by decide) (BinOk.fdivI (by decide) (by decide +kernel) (BinOk.modI (by decide) (BinOk.subI ?_)))
    generalize hf : tot.fmod 20 = f at f1
    generalize hg : 64 - (tot.fdiv 20).fmod 20 = g
    have hg1 : 45 ≤ g ∧ g ≤ 64 := by (first | lia | omega)
    clear hg f2
    have ta := T.a; have td := T.d; have tl := T.l
    refine FnOk.ofCall (words_ok t (c := c.wN n) E.O.wN T.w (by (first | lia | omega)) (show dep t < n by (first | lia | omega)) (BinOk.modI (by decide) ?_))
    obtain ⟨tn, htn⟩ := Int.eq_ofNat_of_zero_le f3.1
    rw [htn]
    have hwl : ∀ w ∈ wordsT t, w.length ≤ 100 := fun w m => (words_WOk t T.w w m).n
    refine FnOk.ofCall (spelled_fn (c := c.wN n) (n := n - 1) E.O.wN (show n = n - 1 + 1 by (first | lia | omega)) hwl (by (first | lia | omega)) ?_)
    have hlen := spell_len (wordsT t) tn hwl
    have hRd := Rd_spell (wordsT t) tn (words_Clean t T.w)
    generalize spell tn (wordsT t) = text at hlen hRd
    refine FnOk.ofCall (M.make (m := n) (by (first | lia | omega)) pn1 h01 (by (first | lia | omega)) fun N1 pn1 hl1 z1 => ?_)
    have l0 : N1.length ≠ 0 := fun e => by rw [e] at hl1; rw [List.length_eq_zero_iff.mp hl1.symm] at h01; cases h01
    clear h01 hl1
    generalize hln : (1 : Int) + (text.count 10 : Nat) = ln
    have i1 : (N1 ++ [OD.lex text [] ln] ++ [OD.lst []])[N1.length]? = some (.lex text [] ln) := by simp
    have i2 : (N1 ++ [OD.lex text [] ln] ++ [OD.lst []])[(N1 ++ [OD.lex text [] ln]).length]? = some (.lst []) := by simp
    have pn3 : PN (N1 ++ [OD.lex text [] ln] ++ [OD.lst []]) := fun od m => by
      rcases List.mem_append.mp m with m | m
      · rcases List.mem_append.mp m with m | m
        · exact pn1 od m
        · rw [List.mem_singleton.mp m]; trivial
      · rw [List.mem_singleton.mp m]; exact ⟨[], rfl⟩
    have W : Wd N1.length (N1 ++ [OD.lex text [] ln]).length ln (N1 ++ [OD.lex text [] ln] ++ [OD.lst []]) true (wordsT t ++ []) [] := ⟨⟨text, [], i1, .inl ⟨rfl, by rw [List.append_nil]; exact hRd⟩⟩, i2, pn3, by simp, by simp; (first | lia | omega), by (first | lia | omega), by rw [List.append_assoc, List.getElem?_append_left (List.getElem?_eq_some_iff.mp z1).1]; exact z1, l0, by simp⟩
    refine BinOk.divI (by decide) (Flt.quot_fits (by decide) (by (first | lia | omega))) ?_
    rw [fl_div (by (first | lia | omega)) (by (first | lia | omega))]
    refine BinOk.divI (by decide) (Flt.quot_fits (by decide) (by (first | lia | omega))) ?_
    rw [fl_div (by (first | lia | omega)) (by (first | lia | omega))]
    have hwin : Win f g [f] [g] := ⟨by (first | lia | omega), by (first | lia | omega), by (first | lia | omega), .head _, List.forall_mem_singleton.mpr (Int.le_refl _), .head _, List.forall_mem_singleton.mpr (Int.le_refl _)⟩
    refine FnOk.ofCall (play_ok (c := c) E t T.w (by (first | lia | omega)) n (by (first | lia | omega)) hwin W fun N4 b4 e4 W4 => ?_)
    rw [List.nil_append] at W4
    have hdt : dep t < n := by (first | lia | omega)
    have hrl := roads_len t [f] [g]
    refine ⟨(show 1 ≤ sizeLine by decide), (show 1 ≤ sizeLine by decide), FnOk.ofCall (roads_ok t (c := c.wN n) [f] [g] E.O.wN Nat.one_pos Nat.one_pos (by show 1 + _ ≤ _; (first | lia | omega)) (by show 1 + _ ≤ _; (first | lia | omega)) (by (first | lia | omega)) hdt (Exists.intro _ ⟨.inl rfl, compG_due (roadsT t [f] [g]) [] (by rw [List.length_nil, hrl]; (first | lia | omega)) ?_⟩))⟩
    refine CmpOk.neL W4.td (TruOk.bool (cond_f (by simp [due]) (BinOk.mulFI (by decide +kernel) (FnOk.ofCall (worth_ok t E.O.wN hdt ⟨(show 3 ≤ sizeLine by decide), FnOk.sorted (ns := [f, worth t, g]) (.inl rfl) (show 3 < 64 by decide) fun ms hp hs => ?_⟩)))))
    have hms := mid_sorted hwin.lt hp hs
    refine IdxOk.seq (i := 1) (.inl rfl) (by rw [List.length_map, hp.length_eq]; exact (show 3 ≤ sizeLine by decide)) (by rw [List.getElem?_map, hms]; rfl) (CmpOk.neFI (TruOk.bool (cond_f ?_ ?_)))
    · have hr := worth_range t T.w
      have hm1 : 0 ≤ midI f (worth t) g ∧ midI f (worth t) g ≤ 64 := by unfold midI; (first | lia | omega)
      rw [fl_ans (by (first | lia | omega)), Int.toNat_of_nonneg hm1.1]; simp
    obtain ⟨cs, pb, e, ⟨rfl, hr⟩ | ⟨_, w, ws', _, e2, _⟩⟩ := id W4.ex
    · have hr : tok cs = ([], []) := hr
      refine ⟨W4.gm E (.head _), FnOk.ofCall (E.L.get0 (m := n) (by (first | lia | omega)) W4.lp e W4.pn ?_)⟩
      rw [hr]
      have e5 : (N4.set N1.length (.lex [] [] ln))[N1.length]? = some (.lex [] [] ln) := List.getElem?_set_self (List.getElem?_eq_some_iff.mp e).1
      have pn5 : PN (N4.set N1.length (.lex [] [] ln)) := W4.pn.set trivial
      have w0 : WOk [] ∧ numOf [] = ((0 : Nat) : Int) := wordB_ok (by decide +kernel)
      refine CmpOk.eqS (TruOk.bool (cond_t (by decide +kernel) (FnOk.ofCall (numC E (by (first | lia | omega)) w0.1 pn5 ?_))))
      rw [w0.2]
      refine FnOk.ofCall (iseof_ok (c := c.wN n) (n := n - 1) E.O.wN (show n = n - 1 + 1 by (first | lia | omega)) (TruOk.bool (cond_t rfl (AttOk.lno E.O.wN e5 W4.lp ⟨GetOk.count, FnOk.count (BinOk.addI (CmpOk.eqI ?_))⟩))))
      have : (ln - (([] : List Nat).count 10 : Nat) == 1 + Txt.count ⟨text.toArray⟩ (Str.ofString "\n")) = true := by
        rw [beq_iff_eq, ← count_cnt', ← hln]; show 1 + _ - (0 : Int) = _; (first | lia | omega)
      rw [this]
      exact hk _ (by rw [List.getElem?_set_ne W4.zo.2.1]; exact W4.zo.1)
    · cases e2
end
end

noncomputable section
-- the lexer, as the heap bears it
structure LexA where
  (x P D S I D1 C F c : Addr)
noncomputable def LexA.all (a : LexA) : List Addr := [a.x, a.P, a.D, a.S, a.I, a.D1, a.C, a.F, a.c]
noncomputable def lamE : Expr := match (bodyOf (stAt 65)).drop 2 with
  | .Assign _ e _ :: _ => e
  | _ => .Constant .none 0 ⟨0, 0, 0, 0⟩
noncomputable def lexE (h1 h2 h3 h4 : Int) (k1 k2 k3 k4 t3 : Tok) (v fp : Value) (P : Addr) : List DictEntry := [⟨h1, .str (Str.ofString "lineno") k1, v⟩, ⟨h2, .str (Str.ofString "instream") k2, fp⟩, ⟨h3, .str (Str.ofString "whitespace") k3, .str (Str.ofString "\n\t\r ") t3⟩, ⟨h4, .str (Str.ofString "pushback") k4, .ref P⟩]
/-- what is known of a lexer's own names -/
structure LexEs (es : List DictEntry) (a : LexA) (cs : List Nat) (ln : Int) : Prop where
  sh : ∃ h1 h2 h3 h4 k1 k2 k3 k4 t3 t, es = lexE h1 h2 h3 h4 k1 k2 k3 k4 t3 (.int (ln - (cs.count 10 : Nat)) t) (.ref a.I) a.P
section
variable {es : List DictEntry} {a : LexA} {cs : List Nat} {ln : Int}
theorem LexEs.lno (e : LexEs es a cs ln) : ∃ t, getL (Str.ofString "lineno") es = some (some (.int (ln - (cs.count 10 : Nat)) t)) := by
  obtain ⟨h1, h2, h3, h4, k1, k2, k3, k4, t3, t, rfl⟩ := e.sh; exact ⟨t, by kernel_rfl⟩
theorem LexEs.ins (e : LexEs es a cs ln) : getL (Str.ofString "instream") es = some (some (.ref a.I)) := by
  obtain ⟨h1, h2, h3, h4, k1, k2, k3, k4, t3, t, rfl⟩ := e.sh; kernel_rfl
theorem LexEs.ws (e : LexEs es a cs ln) : ∃ t, getL (Str.ofString "whitespace") es = some (some (.str (Str.ofString "\n\t\r ") t)) := by
  obtain ⟨h1, h2, h3, h4, k1, k2, k3, k4, t3, t, rfl⟩ := e.sh; exact ⟨t3, by kernel_rfl⟩
theorem LexEs.pb (e : LexEs es a cs ln) : getL (Str.ofString "pushback") es = some (some (.ref a.P)) := by
  obtain ⟨h1, h2, h3, h4, k1, k2, k3, k4, t3, t, rfl⟩ := e.sh; kernel_rfl
theorem LexEs.m (e : LexEs es a cs ln) : ∀ nm ∈ [Str.ofString "get_token", Str.ofString "push_token", Str.ofString "_read_char"], getL nm es = some none := by
  obtain ⟨h1, h2, h3, h4, k1, k2, k3, k4, t3, t, rfl⟩ := e.sh
  intro nm hm
  simp only [List.mem_cons, List.not_mem_nil, or_false] at hm
  rcases hm with rfl | rfl | rfl <;> kernel_rfl
end
structure LexH (h : Heap) (a : LexA) (cs : List Nat) (pb : List Str) (ln : Int) : Prop where
  x : h.get? a.x = some (instObj 87 a.D)
  d : ∃ es n, h.get? a.D = some (dictOf es n) ∧ LexEs es a cs ln
  p : ∃ vs n, h.get? a.P = some (listOf vs.toArray n) ∧ StrsAre vs pb ∧ pb.length ≤ 1000
  i : h.get? a.I = some (instObj 87 a.D1)
  d1 : ∃ es n, h.get? a.D1 = some (dictOf es n) ∧ getL (Str.ofString "read") es = some (some (.ref a.F))
  f : ∃ nm q ps b sc pos pm ctv, lamE = .Lambda ps b sc pos ∧ h.get? a.F = some (kla_obj nm q ps b sc [(Str.ofString "signs", a.C)] pm a.c ctv) ∧ h.CodeRec (.ref a.c) q
  c : ∃ o, h.get? a.C = some o ∧ o.data = .cell (some (.ref a.S))
  s : ∃ vs n, h.get? a.S = some (listOf vs.toArray n) ∧ StrsAre vs (cs.map fun k => (⟨#[k]⟩ : Str)) ∧ cs.length ≤ 500000
  co : ∃ o, h.get? a.c = some o
  sp : a.S ≠ a.P
  lb : (cs.count 10 : Int) + 1 ≤ ln
theorem LexH.keep {h h' : Heap} {a : LexA} {cs pb ln} (H : LexH h a cs pb ln) (k : ∀ b ∈ a.all, ∀ o, h.get? b = some o → h'.get? b = some o) : LexH h' a cs pb ln := by
  have m : ∀ {b}, b ∈ a.all → ∀ {o}, h.get? b = some o → h'.get? b = some o := fun hb _ e => k _ hb _ e
  obtain ⟨x, ⟨es, n, d, d'⟩, ⟨vs, n', p, p'⟩, i, ⟨es1, n1, d1, d1'⟩, ⟨nm, q, ps, b, sc, pos, pm, ctv, f1, f2, ⟨c, o, vs3, t3, e3, g3, r3⟩⟩, ⟨o2, c1, c2⟩, ⟨vs2, n2, s, s'⟩, ⟨o4, co⟩, sp, lb⟩ := H
  cases e3
  refine ⟨m ?_ x, ⟨es, n, m ?_ d, d'⟩, ⟨vs, n', m ?_ p, p'⟩, m ?_ i, ⟨es1, n1, m ?_ d1, d1'⟩, ⟨nm, q, ps, b, sc, pos, pm, ctv, f1, m ?_ f2, ⟨_, o, vs3, t3, rfl, m ?_ g3, r3⟩⟩, ⟨o2, m ?_ c1, c2⟩, ⟨vs2, n2, m ?_ s, s'⟩, ⟨o4, m ?_ co⟩, sp, lb⟩ <;> simp [LexA.all]
/-- the table of the code of _law_lexer: untouched (0), or done with (-1) -/
noncomputable def TabH (h : Heap) (z : List Addr) (cs : List Nat) (pb : List Str) (ln : Int) : Prop := z = [122] ∧ cs = [] ∧ pb = [] ∧ ((ln = 0 ∧ ∃ ps, h.get? 122 = some (tabObj ps) ∧ TriplesOk ps.toList ∧ codeAmong lamE.pos ps.toList = none) ∨ (ln = -1 ∧ ∃ ps, h.get? 122 = some (tabObj ps)))
noncomputable abbrev itObj (a b c : Value) : Obj := { cls := .type "callable_iterator", data := .fields #[a, b, c] }
noncomputable def CitH (h : Heap) (z : List Addr) (zs : Zs) (i : Nat) (e : Bool) : Prop := ∃ I M x r, z = [I, M] ∧ zs[i]? = some (x :: r) ∧ h.get? M = some (methodObj (.ref 70) (.ref x)) ∧
  (if e then ∃ a b, h.get? I = some (itObj a b (.bool true)) else ∃ t, h.get? I = some (itObj (.ref M) (.str (Str.ofString "") t) (.bool false)))
theorem CitH.keep {h h' : Heap} {z : List Addr} {zs zs' : Zs} {i e} (H : CitH h z zs i e) (k : ∀ b ∈ z, ∀ o, h.get? b = some o → h'.get? b = some o) (q : ∀ (j : Nat) (r : List Addr), zs[j]? = some r → zs'[j]? = some r) : CitH h' z zs' i e := by
  obtain ⟨I, M, x, r, rfl, hz, hM, hI⟩ := H
  refine ⟨I, M, x, r, rfl, q _ _ hz, k _ (.tail _ (.head _)) _ hM, ?_⟩
  cases e
  · obtain ⟨t, hI⟩ := hI; exact ⟨t, k _ (.head _) _ hI⟩
  · obtain ⟨a, b, hI⟩ := hI; exact ⟨a, b, k _ (.head _) _ hI⟩
theorem CitH.live {h : Heap} {z : List Addr} {zs : Zs} {i e} (H : CitH h z zs i e) : ∀ b ∈ z, ∃ o, h.get? b = some o := by
  obtain ⟨I, M, x, r, rfl, hz, hM, hI⟩ := H
  refine List.forall_mem_cons.mpr ⟨?_, List.forall_mem_singleton.mpr ⟨_, hM⟩⟩
  cases e
  · obtain ⟨t, hI⟩ := hI; exact ⟨_, hI⟩
  · obtain ⟨a, b, hI⟩ := hI; exact ⟨_, hI⟩
noncomputable def lexX : LexSpec where
  at_ h z cs pb ln := (∃ a : LexA, z = a.all ∧ LexH h a cs pb ln) ∨ TabH h z cs pb ln
  keep := fun H k => by
    rcases H with ⟨a, rfl, H⟩ | ⟨rfl, rfl, rfl, ⟨rfl, ps, e, r⟩ | ⟨rfl, o, e⟩⟩
    · exact .inl ⟨a, rfl, H.keep k⟩
    · exact .inr ⟨rfl, rfl, rfl, .inl ⟨rfl, ps, k _ (.head _) _ e, r⟩⟩
    · exact .inr ⟨rfl, rfl, rfl, .inr ⟨rfl, o, k _ (.head _) _ e⟩⟩
  live := fun H => by
    rcases H with ⟨a, rfl, H⟩ | ⟨rfl, rfl, rfl, ⟨rfl, ps, e, r⟩ | ⟨rfl, o, e⟩⟩
    · obtain ⟨x, ⟨es, n, d, d'⟩, ⟨vs, n', p, p'⟩, i, ⟨es1, n1, d1, d1'⟩, ⟨nm, q, ps, b, sc, pos, pm, ctv, f1, f2, _⟩, ⟨o2, c1, c2⟩, ⟨vs2, n2, s, s'⟩, ⟨o4, co⟩, _, _⟩ := H
      intro b hb
      simp only [LexA.all, List.mem_cons, List.not_mem_nil, or_false] at hb
      rcases hb with rfl | rfl | rfl | rfl | rfl | rfl | rfl | rfl | rfl <;> exact ⟨_, by assumption⟩
    · exact List.forall_mem_singleton.mpr ⟨_, e⟩
    · exact List.forall_mem_singleton.mpr ⟨_, e⟩
  cit := CitH
  ckeep := CitH.keep
  clive := CitH.live
/-- what the class 87 is known by -/
structure ClsK (K : Frag) : Prop where
  pg : ∀ nm, plainGet K 87 nm = true
  hd : hasDictIn K 87 = true
  no : ∀ nm ∈ [Str.ofString "lineno", Str.ofString "instream", Str.ofString "whitespace", Str.ofString "pushback", Str.ofString "read"], findIn K (.ref 87) nm = some none
  me : ∀ p ∈ [(Str.ofString "get_token", 77), (Str.ofString "push_token", 84), (Str.ofString "_read_char", 70)], findIn K (.ref 87) p.1 = some (some (.ref p.2)) ∧ typeIn K (.ref p.2) = some (.type "function")
  sa : findIn K (.ref 87) "__setattr__" = some (some (.builtin "object.__setattr__"))
  po : plainOver K 87 = true
  tk : ∀ nm ∈ [Str.ofString "lineno", Str.ofString "instream", Str.ofString "whitespace", Str.ofString "pushback", Str.ofString "read"], takerIn K 87 nm = some none
  mi : makesIn K 87 = true
  kc : keepIn K (.ref 87) = true
  ini : findIn K (.ref 87) "__init__" = some (some (.ref 63))
  it : typeIn K (.ref 63) = some (.type "function")
  rf : isFn K (.ref 70) = true
  rg : specialIn K (.ref 70) "__get__" = some (some (.builtin "function.__get__"))
  rt : takesIn K (.ref 70) = some false
section
variable {prog : Program} {w : World} {K : Frag} {A : Around} {E : Value → Shared → Prop} {g h : Heap} {L : Addr} {m : Str → Option Value} {ge : Array GenState} {dr : Drawn} {tk : Nat} {os : OsState} {a : LexA} {cs : List Nat} {pb : List Str} {ln : Int}
theorem LexH.inst (H : LexH h a cs pb ln) : ∃ es n, InstAt h a.x (instObj 87 a.D) 87 (some (dictOf es n)) ∧ LexEs es a cs ln := let ⟨es, n, d, d'⟩ := H.d; ⟨es, n, ⟨H.x, rfl, rfl, d⟩, d'⟩
theorem LexH.own (Y : ClsK K) (F : Fr g L h m) (X : K.In g) (H : LexH h a cs pb ln) {nm : Str} {v : Value} {b : Bool} {Q : Value → Shared → Prop} (hn : nm ∈ [Str.ofString "lineno", Str.ofString "instream", Str.ofString "whitespace", Str.ofString "pushback", Str.ofString "read"])
    (hv : handedIn v = true) (hl : ∀ es, LexEs es a cs ln → getL nm es = some (some v)) (q : Q v ⟨h, ge, dr, tk + 1, os⟩) : wpAny (model prog w) A (getAttr (.ref a.x) nm b) Q E ⟨h, ge, dr, tk, os⟩ := by
  obtain ⟨es, n, I, e⟩ := H.inst
  exact get_own (s := ⟨h, ge, dr, tk, os⟩) F X I (Y.pg _) Y.hd (Y.no nm hn) rfl (hl es e) hv q
theorem LexH.setP {h' : Heap} {pb' : List Str} {vs' : List Value} {n' : Nat} (H : LexH h a cs pb ln) (k : ∀ b o, b ≠ a.P → h.get? b = some o → h'.get? b = some o) (hp : h'.get? a.P = some (listOf vs'.toArray n')) (hs : StrsAre vs' pb') (hl : pb'.length ≤ 1000) : LexH h' a cs pb' ln := by
  obtain ⟨x, ⟨es, n, d, d'⟩, ⟨vs, n', p, p'⟩, i, ⟨es1, n1, d1, d1'⟩, ⟨nm, q, ps, b, sc, pos, pm, ctv, f1, f2, ⟨c, o, vs3, t3, e3, g3, r3⟩⟩, ⟨o2, c1, c2⟩, ⟨vs2, n2, s, s'⟩, ⟨o4, co⟩, sp, lb⟩ := H
  cases e3
  have m : ∀ {b : Addr} {o : Obj}, h.get? b = some o → (∀ l n, o ≠ listOf l n) → h'.get? b = some o := fun {b o} e hn => k b o (fun r => by rw [r, p] at e; cases e; exact hn _ _ rfl) e
  have md : ∀ {l : Array Value} {n : Nat} {o : Obj}, (∀ l n, o.data ≠ .seq l n) → o ≠ listOf l n := fun {l n _} h e => h l n (by rw [e])
  exact ⟨m x fun _ _ => md fun _ _ e => (nomatch e), ⟨es, n, m d fun _ _ => md fun _ _ e => (nomatch e), d'⟩, ⟨vs', _, hp, hs, hl⟩, m i fun _ _ => md fun _ _ e => (nomatch e), ⟨es1, n1, m d1 fun _ _ => md fun _ _ e => (nomatch e), d1'⟩,
    ⟨nm, q, ps, b, sc, pos, pm, ctv, f1, m f2 fun _ _ => md fun _ _ e => (nomatch e), ⟨_, o, vs3, t3, rfl, m g3 fun _ _ => md fun _ _ e => (by rw [r3.1] at e; cases e), r3⟩⟩, ⟨o2, m c1 fun _ _ => md fun _ _ e => (by rw [c2] at e; cases e), c2⟩, ⟨vs2, n2, k _ _ sp s, s'⟩, ⟨o, m g3 fun _ _ => md fun _ _ e => (by rw [r3.1] at e; cases e)⟩, sp, lb⟩
theorem at_inv {z : List Addr} (H : lexX.at_ h z cs pb ln) (h0 : 0 < ln) : ∃ a : LexA, z = a.all ∧ LexH h a cs pb ln := by
  rcases H with H | ⟨_, _, _, ⟨e, _⟩ | ⟨e, _⟩⟩
  · exact H
  · omega
  · omega
theorem lexOk (Y : ClsK K) : LexOk prog w lexX K where
  ws := fun F X H h0 hz q => by
    obtain ⟨a, rfl, HH⟩ := at_inv H h0
    obtain ⟨rfl, _⟩ := List.cons.inj hz
    obtain ⟨es, n, I, e⟩ := HH.inst
    obtain ⟨t, ht⟩ := e.ws
    exact get_own (s := ⟨_, _, _, _, _⟩) F X I (Y.pg _) Y.hd (Y.no _ (by simp)) rfl ht rfl (q t _)
  pbk := fun F X H h0 hz q => by
    obtain ⟨a, rfl, HH⟩ := at_inv H h0
    obtain ⟨rfl, _⟩ := List.cons.inj hz
    obtain ⟨es, n, I, e⟩ := HH.inst
    exact get_own (s := ⟨_, _, _, _, _⟩) F X I (Y.pg _) Y.hd (Y.no _ (by simp)) rfl e.pb rfl (q _ _ rfl)
  lno := fun F X H h0 hz q => by
    obtain ⟨a, rfl, HH⟩ := at_inv H h0
    obtain ⟨rfl, _⟩ := List.cons.inj hz
    obtain ⟨es, n, I, e⟩ := HH.inst
    obtain ⟨t, ht⟩ := e.lno
    exact get_own (s := ⟨_, _, _, _, _⟩) F X I (Y.pg _) Y.hd (Y.no _ (by simp)) rfl ht rfl (q t _)
  tru := fun {A E h z z1 cs pb ln Q ge dr tk os} H h0 hz q => by
    obtain ⟨a, rfl, HH⟩ := at_inv H h0
    cases hz
    obtain ⟨vs, n, e, hs, hl⟩ := HH.p
    refine wpAny_truthy_list (s := ⟨_, _, _, _, _⟩) (items := vs.toArray) ⟨_, e, rfl, _, rfl⟩ (by have := hs.len_eq; simp; omega) ?_
    have e2 : (!vs.toArray.isEmpty) = !pb.isEmpty := by cases hs <;> rfl
    rw [e2]; exact q _
  popM := fun H h0 hz q => by
    obtain ⟨a, rfl, HH⟩ := at_inv H h0
    cases hz
    obtain ⟨vs, n, e, hs, hl⟩ := HH.p
    exact getMethod_builtin (s := ⟨_, _, _, _, _⟩) ⟨_, e, rfl⟩ PySem.F.plainAttrs_list PySem.F.slot_list_pop PySem.F.type_list_pop (fun a e' => by cases e'; exact ⟨_, e, rfl⟩) q
  popC := fun {A E h z a' cs p pb ln t Q ge dr tk os} H h0 hz q => by
    obtain ⟨a, rfl, HH⟩ := at_inv H h0
    cases hz
    obtain ⟨vs, n, e, hs, hl⟩ := HH.p
    cases hs with
    | @cons _ u vs _ r =>
      have er : (Value.str p u :: vs).toArray.eraseIdxIfInBounds 0 = vs.toArray := kl_erase [] vs (.str p u)
      have hu := PySem.IsL.update e fun xs => xs.eraseIdxIfInBounds 0
      rw [er, if_neg (by simp)] at hu
      have hk := HH.setP (h' := h.update a.P (Obj.mapSeq fun xs => xs.eraseIdxIfInBounds 0)) (pb' := pb) (vs' := vs) (n' := n + 1) (fun b o hb e => by
        have := (Heap.SameBut.update (h := h) (a := a.P) (f := Obj.mapSeq fun xs => xs.eraseIdxIfInBounds 0)).2 b hb
        exact this.trans e) hu r (Nat.le_of_succ_le hl)
      refine call_meets (s := ⟨_, _, _, _, _⟩) PySem.F.slot_list_pop ⟨_, e, rfl⟩ PySem.F.entry_list_pop (PySem.F.args_list_pop_2 _ _) (PySem.MeetsSeq.list_pop_at a.P (Value.str p u :: vs).toArray n 0 t 0 (.str p u) (by decide) (by simp [seqIndex?]) (by simp) (by rw [List.size_toArray, List.length_cons]; have e := r.len_eq; exact Nat.le_trans (show vs.length + 1 ≤ 2000 by rw [List.length_cons] at hl; omega) (by decide))) ⟨e, ?_⟩
      exact q _ u tk (fun b o hb e' => by
        have := (Heap.SameBut.update (h := h) (a := a.P) (f := Obj.mapSeq fun xs => xs.eraseIdxIfInBounds 0)).2 b (fun r => hb (r ▸ by simp [LexA.all]))
        exact this.trans e') (.inl ⟨a, rfl, hk⟩)
  mth := fun {A E g L h m z self r cs pb ln f nm pl Q ge dr tk os} F X H h0 hz hm q => by
    obtain ⟨a, rfl, HH⟩ := at_inv H h0
    obtain ⟨rfl, _⟩ := List.cons.inj hz
    obtain ⟨es, n, I, e⟩ := HH.inst
    have me := Y.me _ hm
    have hs : shadowIn (some (dictOf es n)) nm = some false := by
      show (getL nm es).map _ = _
      rw [e.m _ (by simp only [List.mem_cons, Prod.mk.injEq, List.not_mem_nil, or_false] at hm ⊢; rcases hm with ⟨h1, _⟩ | ⟨h1, _⟩ | ⟨h1, _⟩ <;> simp [h1])]; rfl
    exact method_fn (s := ⟨_, _, _, _, _⟩) (X.keeps F.keep) I (plainGet_of (name := Str.ofString "") (Y.pg _)).1 (plainGet_of (name := Str.ofString "") (Y.pg _)).2 me.1 me.2 hs q
end
end

noncomputable section
section
variable {prog : Program} {w : World} {K : Frag} {A : Around} {E : Value → Shared → Prop} {g h : Heap} {L : Addr} {m : Str → Option Value} {ge : Array GenState} {dr : Drawn} {tk : Nat} {os : OsState} {a : LexA} {cs : List Nat} {pb : List Str} {ln : Int} {n : Nat}
theorem LexH.setS {h' : Heap} {cs' : List Nat} {ln' : Int} {vs' : List Value} {n' : Nat} (H : LexH h a cs pb ln) (k : ∀ b o, b ≠ a.S → h.get? b = some o → h'.get? b = some o) (hp : h'.get? a.S = some (listOf vs'.toArray n')) (hs : StrsAre vs' (cs'.map fun k => (⟨#[k]⟩ : Str))) (hl : cs'.length ≤ 500000)
    (hln : ln' - (cs'.count 10 : Nat) = ln - (cs.count 10 : Nat)) : LexH h' a cs' pb ln' := by
  obtain ⟨x, ⟨es, n, d, d'⟩, ⟨vs, n', p, p'⟩, i, ⟨es1, n1, d1, d1'⟩, ⟨nm, q, ps, b, sc, pos, pm, ctv, f1, f2, ⟨c, o, vs3, t3, e3, g3, r3⟩⟩, ⟨o2, c1, c2⟩, ⟨vs2, n2, s, s'⟩, ⟨o4, co⟩, sp, lb⟩ := H
  cases e3
  have m : ∀ {b : Addr} {o : Obj}, h.get? b = some o → (∀ l n, o ≠ listOf l n) → h'.get? b = some o := fun {b o} e hn => k b o (fun r => by rw [r, s] at e; cases e; exact hn _ _ rfl) e
  have md : ∀ {l : Array Value} {n : Nat} {o : Obj}, (∀ l n, o.data ≠ .seq l n) → o ≠ listOf l n := fun {l n _} h e => h l n (by rw [e])
  exact ⟨m x fun _ _ => md fun _ _ e => (nomatch e), ⟨es, n, m d fun _ _ => md fun _ _ e => (nomatch e), ⟨by rw [hln]; exact d'.sh⟩⟩, ⟨vs, _, k _ _ (Ne.symm sp) p, p'⟩, m i fun _ _ => md fun _ _ e => (nomatch e), ⟨es1, n1, m d1 fun _ _ => md fun _ _ e => (nomatch e), d1'⟩,
    ⟨nm, q, ps, b, sc, pos, pm, ctv, f1, m f2 fun _ _ => md fun _ _ e => (nomatch e), ⟨_, o, vs3, t3, rfl, m g3 fun _ _ => md fun _ _ e => (by rw [r3.1] at e; cases e), r3⟩⟩, ⟨o2, m c1 fun _ _ => md fun _ _ e => (by rw [c2] at e; cases e), c2⟩, ⟨vs', _, hp, hs, hl⟩, ⟨o, m g3 fun _ _ => md fun _ _ e => (by rw [r3.1] at e; cases e)⟩, sp, by omega⟩
theorem lam_call {t : Tok} {Q : Value → Shared → Prop} (R : Rm A n) (lim : h.NoLimit) (H : LexH h a cs pb ln)
    (q0 : cs = [] → ∀ h' t tk', Sub h h' → Q (.str (Str.ofString "") t) ⟨h', ge, dr, tk', os⟩)
    (q1 : ∀ k r, cs = k :: r → ∀ h' u tk', Keep [a.S] h h' → LexH h' a r pb (ln - (if k = 10 then 1 else 0)) → Q (.str ⟨#[k]⟩ u) ⟨h', ge, dr, tk', os⟩) : wpAny (model prog w) A (call (.ref a.F) [.int 1 t]) Q NoE ⟨h, ge, dr, tk, os⟩ := by
  obtain ⟨nm, qn, ps, b, sc, pos, pm, ctv, el, hF, hcode⟩ := H.f
  conv at el => lhs; whnf
  cases el
  refine wpAny_call (kla_callFunE (s := ⟨h, ge, dr, tk, os⟩) R.room hF rfl rfl rfl rfl hcode ?_)
  refine BindsTo.of_eq (binds := [(Str.ofString "count", .int 1 t)]) (by kernel_rfl) _ _ _ _ (wpAny_newFunctionEnv (fun x hx => (List.mem_cons.mp hx).elim (fun e => by rw [e]; exact fun h => nomatch h) (fun hx => by rw [List.mem_singleton.mp hx]; exact fun h => nomatch h)) (List.forall_mem_singleton.mpr rfl) (fun h₁ hns hsb => ⟨lim.fresh _ hsb, ?_⟩) rfl)
  have hk₁ : Sub h h₁ := fun b o e => hsb.extBut b o (Nat.ne_of_lt (Heap.lt_size e)) (Heap.get?_push_of_some _ e)
  have H₁ := H.keep fun b _ o e => hk₁ b o e
  show codeAny _ _ (.expr _ (envX qn _ h.objs.size a.F (.ref a.c) [(Str.ofString "signs", a.C)])) _ _
  have hcell := H₁.c
  obtain ⟨vs, ns, es, hs, hl⟩ := H₁.s
  have rd : ∀ {tk : Nat} {P : Pos} {Q E : Value → Shared → Prop} {A : Around} {sc : Scope}, sc.kind = .function → sc.names.lookup (Str.ofString "signs") = some .free → Q (.ref a.S) ⟨h₁, ge, dr, tk, os⟩ → wpAny (model prog w) A (eval (.Name (Str.ofString "signs") P) (envX qn sc h.objs.size a.F (.ref a.c) [(Str.ofString "signs", a.C)])) Q E ⟨h₁, ge, dr, tk, os⟩ := fun h1 h2 q =>
    wpAny_Name (wpAny_loadName_free (s := ⟨h₁, _, _, _, _⟩) h1 h2 (by kernel_rfl) hcell q) (by decide +kernel)
  refine kla_codeExpr (wpAny_IfExp (wpAny_isTrue_value (rd rfl rfl (wpAny_truthy_list (s := ⟨h₁, _, _, _, _⟩) (items := vs.toArray) ⟨_, es, rfl, _, rfl⟩ (by have := hs.len_eq; simp at this ⊢; omega) ?_))))
  cases cs with
  | nil =>
    cases hs
    exact wpAny_Constant_str (q0 rfl _ _ _ hk₁)
  | cons k r =>
    cases hs with
    | @cons _ u vs _ hr =>
      have er : (Value.str ⟨#[k]⟩ u :: vs).toArray.eraseIdxIfInBounds 0 = vs.toArray := kl_erase [] vs (.str ⟨#[k]⟩ u)
      have hu := PySem.IsL.update es fun xs => xs.eraseIdxIfInBounds 0
      rw [er, if_neg (by simp)] at hu
      refine wpAny_Call_method1_late (by kernel_rfl) (by kernel_rfl) (by kernel_rfl) (rd rfl rfl ⟨_, _, PySem.F.plainAttrs_list, PySem.F.slot_list_pop, PySem.F.type_list_pop, ⟨_, es, rfl⟩, (fun a e' => by cases e'; exact ⟨_, es, rfl⟩), ?_⟩)
      refine Calls.callWith_builtin rfl (Calls.evalArgs_plain (Calls.spliced_cons (wpAny_Constant_int (Calls.spliced_nil ?_))))
      have hk := H₁.setS (h' := h₁.update a.S (Obj.mapSeq fun xs => xs.eraseIdxIfInBounds 0)) (cs' := r) (ln' := ln - (if k = 10 then 1 else 0)) (vs' := vs) (n' := ns + 1) (fun b o hb e => by
        have := (Heap.SameBut.update (h := h₁) (a := a.S) (f := Obj.mapSeq fun xs => xs.eraseIdxIfInBounds 0)).2 b hb
        exact this.trans e) hu hr (Nat.le_of_succ_le hl) (by rw [List.count_cons]; simp only [beq_iff_eq]; split <;> omega)
      refine call_meets (s := ⟨_, _, _, _, _⟩) PySem.F.slot_list_pop ⟨_, es, rfl⟩ PySem.F.entry_list_pop (PySem.F.args_list_pop_2 _ _) (PySem.MeetsSeq.list_pop_at a.S (Value.str ⟨#[k]⟩ u :: vs).toArray ns 0 _ 0 (.str ⟨#[k]⟩ u) (by decide) (by simp [seqIndex?]) (by simp) (by rw [List.size_toArray, List.length_cons]; have e := hr.len_eq; rw [List.length_map] at e; exact Nat.le_trans (show vs.length + 1 ≤ 500000 by rw [List.length_cons] at hl; omega) (by decide))) ⟨es, ?_⟩
      refine q1 k r rfl _ u _ (fun b o hb e' => ?_) hk
      have := (Heap.SameBut.update (h := h₁) (a := a.S) (f := Obj.mapSeq fun xs => xs.eraseIdxIfInBounds 0)).2 b (fun r => hb (r ▸ by simp))
      exact this.trans (hk₁ b o e')
theorem LexH.setD {h' : Heap} {ln' : Int} {es' : List DictEntry} {n' : Nat} (H : LexH h a cs pb ln) (k : ∀ b o, b ≠ a.D → h.get? b = some o → h'.get? b = some o) (hp : h'.get? a.D = some (dictOf es' n')) (hs : LexEs es' a cs ln') (hd : a.D ≠ a.D1) (hl : ln ≤ ln') : LexH h' a cs pb ln' := by
  obtain ⟨x, ⟨es, n, d, d'⟩, ⟨vs, n', p, p'⟩, i, ⟨es1, n1, d1, d1'⟩, ⟨nm, q, ps, b, sc, pos, pm, ctv, f1, f2, ⟨c, o, vs3, t3, e3, g3, r3⟩⟩, ⟨o2, c1, c2⟩, ⟨vs2, n2, s, s'⟩, ⟨o4, co⟩, sp, lb⟩ := H
  cases e3
  have m : ∀ {b : Addr} {o : Obj}, h.get? b = some o → (∀ l n, o ≠ dictOf l n) → h'.get? b = some o := fun {b o} e hn => k b o (fun r => by rw [r, d] at e; cases e; exact hn _ _ rfl) e
  have md : ∀ {l : List DictEntry} {n : Nat} {o : Obj}, (∀ l n, o.data ≠ .dict l n) → o ≠ dictOf l n := fun {l n _} h e => h l.toArray n (by rw [e])
  exact ⟨m x fun _ _ => md fun _ _ e => (nomatch e), ⟨es', _, hp, hs⟩, ⟨vs, _, m p fun _ _ => md fun _ _ e => (nomatch e), p'⟩, m i fun _ _ => md fun _ _ e => (nomatch e), ⟨es1, n1, k _ _ (Ne.symm hd) d1, d1'⟩,
    ⟨nm, q, ps, b, sc, pos, pm, ctv, f1, m f2 fun _ _ => md fun _ _ e => (nomatch e), ⟨_, o, vs3, t3, rfl, m g3 fun _ _ => md fun _ _ e => (by rw [r3.1] at e; cases e), r3⟩⟩, ⟨o2, m c1 fun _ _ => md fun _ _ e => (by rw [c2] at e; cases e), c2⟩, ⟨vs2, n2, m s fun _ _ => md fun _ _ e => (nomatch e), s'⟩, ⟨o, m g3 fun _ _ => md fun _ _ e => (by rw [r3.1] at e; cases e)⟩, sp, by omega⟩
end
end

noncomputable section
noncomputable abbrev lc (prog : Program) (w : World) (K : Frag) (n : Nat) (B : Array GenState → Prop) : Cf := ⟨prog, w, lexX, K, n, B⟩
section
variable {c : Cf} {x : Sx} {N : List OD} {h' : Heap} {i : Nat} {od od' : OD} {z : List Addr} {tk : Nat}
theorem Good.upd (G : Good c x N) (e : N[i]? = some od) (hz : x.zs[i]? = some z) (k : Keep z x.h h') (o : OIs c.X x.zs x.W h' z od') : Ex0 x.zs x.W x.h x.zs x.W h' ∧ Good c (x.up x.zs x.W h' x.ge tk) (N.set i od') := by
  have ma : ∀ a ∈ z, a ∈ x.zs.flatten := fun a m => List.mem_flatten.mpr ⟨z, List.mem_of_getElem? hz, m⟩
  have e0 : Ex0 x.zs x.W x.h x.zs x.W h' := ⟨⟨[], by simp⟩, fun _ m => m, fun _ m => .inl m, fun _ m => .inl m, fun b o nb q => k b o (fun r => nb (ma b r)) q, fun b m => .inl m⟩
  refine ⟨e0, ⟨G.R, G.C, G.E, G.ok, G.S.per e0 ?_, G.b⟩⟩
  refine G.S.lg.step e0 G.S.lg.nd G.S.lg.sub (fun _ m => .inl m) (by simp [G.S.lg.len]) fun j od z' ho hj => ?_
  by_cases q : i = j
  · subst q
    rw [List.getElem?_set_self (List.getElem?_eq_some_iff.mp e).1] at ho
    cases ho
    rw [hz] at hj; cases hj
    exact o
  · rw [List.getElem?_set_ne q] at ho
    exact (G.S.lg.obs j od z' ho hj).per e0 (fun b m => .inl (G.S.lg.sub b m)) fun b m o ho => k b o (fun r => flat_apart G.S.lg.nd q hz hj r m) ho
end
/-- self.instream.read(1) -/
noncomputable def eRead (i : Nat) : EvT := fun _ l N k => locV l[i]? fun d => ∃ j cs pb ln, d = .ob j ∧ N[j]? = some (.lex cs pb ln) ∧ 0 < ln ∧ (((cs.count 10 : Nat) : Int) + 1 ≤ ln → match cs with
  | [] => k (.str (Str.ofString "")) N
  | x :: r => k (.str ⟨#[x]⟩) (N.set j (.lex r pb (ln - if x = 10 then 1 else 0))))
/-- self.lineno += 1 -/
noncomputable def sLine (i : Nat) (r : SxT) : SxT := fun c l N kn kc kr => locV l[i]? fun d => ∃ j cs pb ln, d = .ob j ∧ N[j]? = some (.lex cs pb ln) ∧ 0 < ln ∧ r c l (N.set j (.lex cs pb (ln + 1))) kn kc kr
section
variable {prog : Program} {w : World} {K : Frag} {n : Nat} {B : Array GenState → Prop} {P : Pm} {i : Nat} {self : Str}
theorem lexNd {x : Sx} {N : List OD} (G : Good (lc prog w K n B) x N) {j : Nat} {a : LexA} (hz : x.zs[j]? = some a.all) : a.all.Nodup := by
  exact (List.pairwise_flatten.mp G.S.lg.nd).1 _ (List.mem_of_getElem? hz)
theorem locI {x : Sx} {N : List OD} (G : Good (lc prog w K n B) x N) (hs : Slot self i x.P.vs) {k : D → Prop} (h : locV x.l[i]? k) : ∃ d, x.l[i]? = some (some d) ∧ k d := by
  unfold locV at h
  split at h
  · exact ⟨_, by assumption, h⟩
  · exact h.elim
theorem Snd.read (Y : ClsK K) (hs : Slot self i P.vs) {p1 p2 p3 p4 p5 : Pos} (hb : ∀ env, attributeBase (.Name self p1) (Str.ofString "instream") env (eval (.Name self p1) env) = eval (.Name self p1) env)
    (sh : ∀ env, ∃ pl, eval (.Call (.Attribute (.Attribute (.Name self p1) (Str.ofString "instream") p2) (Str.ofString "read") p3) [.Constant (.int 1) 0 p4] [] p5) env = (do
      let ov ← eval (.Attribute (.Name self p1) (Str.ofString "instream") p2) env
      standAt p3.atName
      let (f, first) ← holding [ov] (getMethod ov (Str.ofString "read") pl)
      callWith p5 f first (backTo p5 (starEach [.Constant (.int 1) 0 p4] env)) (backToKw p5 (keywordEach [] env)))) :
    Snd (lc prog w K n B) P (.Call (.Attribute (.Attribute (.Name self p1) (Str.ofString "instream") p2) (Str.ofString "read") p3) [.Constant (.int 1) 0 p4] [] p5) (eRead i) := fun x N k G hP h => by
  subst hP
  obtain ⟨d, hd, j, cs, pb, ln, rfl, e, h0, h⟩ := locI G hs h
  obtain ⟨pl, es⟩ := sh x.env
  refine methodCall_KW (pl := pl) ?_ es
  rw [arm_eval_Attribute, hb]
  refine wpAny_bind (PE.bind (k1 := fun d' N' => d' = .ob j ∧ N' = N) (Snd.loc (c := lc prog w K n B) (P := x.P) hs x N _ G rfl (by show locV x.l[i]? _; rw [hd]; exact ⟨rfl, rfl⟩)) fun zs W h1 ge tk v d N1 e1 G1 i1 hk1 => ?_)
  obtain ⟨rfl, rfl⟩ := hk1
  obtain ⟨a', r, rfl, hz⟩ := i1.ob'
  obtain ⟨m, F, _⟩ := G1.S.fr
  obtain ⟨a, rz, H⟩ := at_inv (G1.S.lg.obs _ _ _ e hz) h0
  obtain ⟨rfl, rfl⟩ := List.cons.inj rz
  refine wpAny_bind (wpAny_standAt (wpAny_bind (wpAny_holding (H.own (ge := ge) (dr := x.dr) (os := x.os) (tk := tk) Y F G1.C.X (by simp) rfl (fun es he => he.ins) ?_))))
  refine wpAny_bind (wpAny_letTemporaryGo (wpAny_pure ?_))
  obtain ⟨es1, n1, d1, d2⟩ := H.d1
  have I1 : InstAt h1 a.I (instObj 87 a.D1) 87 (some (dictOf es1 n1)) := ⟨H.i, rfl, rfl, d1⟩
  obtain ⟨nm, qn, ps, b, sc, pos, pm, ctv, el, hF, hcode⟩ := id H.f
  refine method_usual (s := ⟨h1, ge, x.dr, tk + 1, x.os⟩) (r := none) (G1.C.X.keeps F.keep) I1 (plainGet_of (name := Str.ofString "") (Y.pg _)).1 (plainGet_of (name := Str.ofString "") (Y.pg _)).2 (Y.no _ (by simp)) rfl ?_
  refine get_own (s := ⟨h1, ge, x.dr, tk + 1, x.os⟩) F G1.C.X I1 (Y.pg _) Y.hd (Y.no _ (by simp)) rfl d2 rfl ?_
  refine callWith_of (P := fun h => ∃ o fd, h.get? a.F = some o ∧ o.data = .func fd) rfl (fun h q => ?_) ?_
  · obtain ⟨o, fd, q, qd⟩ := q
    exact ⟨.frame, .inl rfl, (Looks.ld (part := none) q).andThen (by rw [qd]; exact .now)⟩
  refine Calls.evalArgs_plain (Calls.spliced_cons (wpAny_Constant_int (k := 0) (pos := p4) (Calls.spliced_nil ⟨⟨_, _, hF, rfl⟩, ?_⟩)))
  refine lam_call (R := (G1.R : Rm x.A n)) (G1.C.lim.keeps G1.S.sub) H (fun q h2 t tk' sb => ?_) (fun k r q h2 u tk' kp H2 => ?_)
  · subst q
    have h := h H.lb
    exact (PE.mkS (x := x.up zs W h1 ge tk) G1 sb .str h).lift G.S.lg.sub e1
  · subst q
    have h := h H.lb
    obtain ⟨e2, G2⟩ := G1.upd (tk := tk') (h' := h2) e hz (fun b o nb q => kp b o (fun m => nb (by simp at m; rw [m]; simp [LexA.all])) q) (od' := .lex r pb (ln - if k = 10 then 1 else 0)) (.inl ⟨a, rfl, H2⟩)
    exact PE.lift G.S.lg.sub e1 ⟨zs, W, h2, ge, tk', .str ⟨#[k]⟩, _, rfl, e2, G2, .str, h⟩
end
section
variable {prog : Program} {w : World} {K : Frag} {A : Around} {E : Value → Shared → Prop} {s : Shared} {x C dx : Addr} {ox : Obj} {name : Str} {es : List DictEntry} {n : Nat} {v : Value}
/-- a name set on an object with a dict of its own: the heap but for that dict stays -/
theorem set_at {Q : Unit → Shared → Prop} (X : K.In s.heap) (I : InstAt s.heap x ox C (some (dictOf es n))) (hd : ox.dict = some dx) (hs : findIn K (.ref C) "__setattr__" = some (some (.builtin "object.__setattr__")))
    (hp : plainOver K C = true) (ht : takerIn K C name = some none) (hh : hasDictIn K C = true) (hl : (getL name es).isSome = true) (hz : (putL name (PyData.keyHash w.params name) (.str name (s.toks + 1)) v es).length ≤ 1000)
    (h : ∀ h', Heap.SameBut dx s.heap h' → h'.get? dx = some (dictOf (putL name (PyData.keyHash w.params name) (.str name (s.toks + 1)) v es) (putN name es n)) → Q () { s with heap := h', toks := s.toks + 2 }) :
    wpAny (model prog w) A (setAttr (.ref x) name v) Q E s := by
  obtain ⟨hh0, g0, d0, t0, os0⟩ := s
  replace X : K.In hh0 := X
  refine set_plain X I hs (osa_open (s := ⟨hh0, g0, d0, t0 + 1, os0⟩) X I hp ht fun b => ?_)
  obtain ⟨cd, hc, hd'⟩ := any_some hh
  obtain ⟨hx, hcl, hn, hdx⟩ := I
  obtain ⟨oc, odi, oda, osl⟩ := ox
  dsimp only at hcl hd
  subst hcl hd
  have D : hh0.get? dx = some (dictOf es n) := hdx
  have up : (hh0.update dx (Obj.putName name (PyData.keyHash w.params name) (.str name (t0 + 1)) v)).get? dx = some (dictOf (putL name (PyData.keyHash w.params name) (.str name (t0 + 1)) v es) (putN name es n)) := by
    rw [Heap.get?_update_self _ D (by rw [putName_dict]; rfl), putName_dict]
  refine wpAny_bind (wpAny_pure (wpAny_bind (wpAny_bind (wpAny_loadPart hx (wpAny_bind ((looks_clsIn X hc).here ?_))))))
  rw [hd']
  refine wpAny_pure (a := some dx) (wpAny_bind (wpAny_pure (wpAny_bind ?_)))
  unfold nsSet
  refine wpAny_bind (wpAny_bind (wpAny_askSetting (wpAny_pure (wpAny_bind (wpAny_mkText (wpAny_bind (wpAny_loadPart D ?_)))))))
  have c : (!es.toArray.any (·.key.isStr name) && es.toArray.any (·.refKey)) = false := by
    rw [← Array.any_toList, ← Array.any_toList]
    unfold getL at hl
    split at hl
    · rename_i en he
      rw [List.any_eq_true.mpr ⟨en, List.mem_of_find?_eq_some he, List.find?_some he⟩]; rfl
    · split at hl
      · cases hl
      · rename_i z; rw [Bool.not_eq_true] at z; rw [z, Bool.and_false]
  dsimp only
  rw [aRefKeyMayBeTheName_at, c]
  refine wpAny_updatePart D ?_
  refine wpAny_bind (wpAny_lookBehind up (pastItsLine_dict (by rw [List.size_toArray, sizeLine_eq]; exact Nat.le_trans hz (by decide))) ?_)
  exact wpAny_pure (h _ (Heap.SameBut.update ..) up)
end
section
variable {prog : Program} {w : World} {K : Frag} {n : Nat} {B : Array GenState → Prop} {P : Pm} {i : Nat} {self : Str}
theorem putL_line {h1 h2 h3 h4 hsh : Int} {k1 k2 k3 k4 t3 : Tok} {v0 v key I : Value} {P : Addr} : putL (Str.ofString "lineno") hsh key v (lexE h1 h2 h3 h4 k1 k2 k3 k4 t3 v0 I P) = lexE h1 h2 h3 h4 k1 k2 k3 k4 t3 v I P := by kernel_rfl
theorem SndS.line (Y : ClsK K) (hs : Slot self i P.vs) {p1 p2 p3 pos : Pos} {r : List Stmt} {u : SxT} (hr : SndS (lc prog w K n B) P r u) : SndS (lc prog w K n B) P (.AugAssign (.Attribute (.Name self p1) (Str.ofString "lineno") p2) .Add (.Constant (.int 1) 0 p3) pos :: r) (sLine i u) := fun x N kn kc kr G hP h => by
  subst hP
  obtain ⟨d, hd, j, cs, pb, ln, rfl, e, h0, h⟩ := locI G hs h
  refine SndS.next (wpAny_AugAssign_AttributeAny (PE.bind (k1 := fun d' N' => d' = .ob j ∧ N' = N) (Snd.loc (c := lc prog w K n B) (P := x.P) hs x N _ G rfl (by show locV x.l[i]? _; rw [hd]; exact ⟨rfl, rfl⟩)) fun zs W h1 ge tk v d N1 e1 G1 i1 hk1 => ?_))
  obtain ⟨rfl, rfl⟩ := hk1
  obtain ⟨a', r, rfl, hz⟩ := i1.ob'
  obtain ⟨m, F, _⟩ := G1.S.fr
  obtain ⟨a, rz, H⟩ := at_inv (G1.S.lg.obs _ _ _ e hz) h0
  obtain ⟨rfl, rfl⟩ := List.cons.inj rz
  obtain ⟨es, nn, d1, d2⟩ := H.d
  obtain ⟨q1, q2, q3, q4, k1, k2, k3, k4, t3, t, rfl⟩ := d2.sh
  have I1 : InstAt h1 a.x (instObj 87 a.D) 87 (some (dictOf (lexE q1 q2 q3 q4 k1 k2 k3 k4 t3 (.int (ln - (cs.count 10 : Nat)) t) (.ref a.I) a.P) nn)) := ⟨H.x, rfl, rfl, d1⟩
  refine get_own (s := ⟨h1, ge, x.dr, tk, x.os⟩) F G1.C.X I1 (Y.pg _) Y.hd (Y.no _ (by simp)) rfl (v := .int (ln - (cs.count 10 : Nat)) t) (by kernel_rfl) rfl ?_
  refine wpAny_Constant_int (iadd_int ?_)
  refine set_at (s := ⟨h1, ge, x.dr, _, x.os⟩) (G1.C.X.keeps F.keep) I1 rfl Y.sa Y.po (Y.tk _ (by simp)) Y.hd (by kernel_rfl) (by show 4 ≤ 1000; decide) fun h2 sb hh => ?_
  have nd := lexNd G1 hz
  rw [putL_line] at hh
  have H2 : LexH h2 a cs pb (ln + 1) := H.setD (fun b o hb q => by rw [sb.2 b hb]; exact q) hh ⟨q1, q2, q3, q4, k1, k2, k3, k4, t3, _, by rw [show ln + 1 - ((cs.count 10 : Nat) : Int) = ln - ((cs.count 10 : Nat) : Int) + 1 by omega]⟩ (fun q => by simp [LexA.all, q] at nd) (by omega)
  obtain ⟨e2, G2⟩ := G1.upd (tk := _) (h' := h2) e hz (fun b o nb q => by rw [sb.2 b (fun r => nb (r ▸ by simp [LexA.all]))]; exact q) (od' := .lex cs pb (ln + 1)) (.inl ⟨a, rfl, H2⟩)
  exact to_lift G (ExL.trans (l := x.l) (ge := ge) (tk := tk) G (G.toL G1 e1) (G1.toL G2 e2)) (hr _ _ kn kc kr G2 rfl h)
end
end

noncomputable section
@[reducible] noncomputable def P81 : Pm := ⟨scopeOf (meth 8 1), [Str.ofString "self", Str.ofString "ch"], []⟩
theorem ok81 : P81.Ok := .of (by kernel_rfl) (by decide +kernel) (by decide +kernel) (by decide +kernel)
theorem pl81 : Plain (meth 8 1) := ⟨by kernel_rfl, by kernel_rfl, by decide +kernel⟩
section
variable {prog : Program} {w : World} {K : Frag} {n m : Nat} {B : Array GenState → Prop} {N : List OD} {k : Kt} {i : Nat} {cs : List Nat} {pb : List Str} {ln : Int}
theorem read_ok (Y : ClsK K) (O : (lc prog w K n B).Ok) (hn : n = m + 1) (e : N[i]? = some (.lex cs pb ln)) (h0 : 0 < ln) (k0 : cs = [] → k (.str (Str.ofString "")) N)
    (k1 : ∀ x r, cs = x :: r → k (.str ⟨#[x]⟩) (N.set i (.lex r pb ln))) : CallOk (lc prog w K n B) 70 [.ob i] N k := by
  refine' enterX (P := P81) (m := 1) hn O.hK.fRead rfl ok81 pl81 rfl (by decide) ?b (by conv => lhs; whnf) ?s ?h
  case b => intro vs hv; intros; obtain ⟨a, rfl⟩ := List.length_eq_one_iff.mp hv; kernel_rfl
  case s =>
    have O : ((lc prog w K n B).wN m).Ok := ⟨O.hK, O.HL⟩
    repeat (any_goals ((with_reducible first | exact SndS.nil | refine' SndS.ret _ | refine' SndS.asg (by ((with_reducible (repeat (first | exact Slot.hd | apply Slot.tl))))) _ (by (with_unfolding_all exact fun _ => rfl)) _ | refine' SndS.aug (by ((with_reducible (repeat (first | exact Slot.hd | apply Slot.tl))))) _ _ | refine' SndS.iff _ _ _ _ | refine' SndS.exp _ (by (with_unfolding_all exact fun _ => rfl)) _ | (refine' SndS.forE (by assumption) (by assumption) (by ((with_reducible (repeat (first | exact Slot.hd | apply Slot.tl))))) (by ((with_reducible (repeat (first | exact Slot.hd | apply Slot.tl))))) (by ((with_reducible (repeat (first | exact Slot.hd | apply Slot.tl))))) _ (by (with_unfolding_all exact fun _ => rfl)) (by (with_unfolding_all exact fun _ => rfl)) _ _) | refine' SndS.allB (fun _ _ => _) (by assumption) | refine' SndC.allB (fun _ _ => _) (by assumption) | refine' Snd.allB (fun _ _ => _) (by assumption) | refine' SndS.for1 (by ((with_reducible (repeat (first | exact Slot.hd | apply Slot.tl))))) _ (by (with_unfolding_all exact fun _ _ => rfl)) _ _ | refine' SndS.wh _ _ _ | refine' SndC.cmp _ _ (by with_unfolding_all rfl) | refine' SndC.nt _ | refine' SndC.or _ _ | refine' SndC.val _ (by (with_unfolding_all exact fun _ _ => rfl)) | exact Snd.cint | exact Snd.cstr | exact Snd.cnone | exact Snd.cbool | exact Snd.cflt | (apply Snd.loc; (focus (((with_reducible (repeat (first | exact Slot.hd | apply Slot.tl)))); done))) | (apply Snd.glo; (focus assumption); (focus (((with_reducible (repeat (first | exact Slot.hd | apply Slot.tl)))); done)); (focus ((with_reducible (repeat (first | exact At.hd | apply At.tl))); done))) | (apply Snd.blt; (focus assumption); (focus (((with_reducible (repeat (first | exact Slot.hd | apply Slot.tl)))); done)); (focus ((with_reducible (repeat (first | exact At.hd | apply At.tl))); done)); (focus ((with_reducible (repeat (first | exact At.hd | apply At.tl))); done))) | refine' Snd.bin _ _ | refine' Snd.cmp _ _ (by with_unfolding_all rfl) | refine' Snd.see _ _ _ | refine' Snd.sen _ _ | refine' Snd.sne _ _ | refine' Snd.idx _ _ (by (with_unfolding_all exact fun _ _ => rfl)) | refine' Snd.att _ (by (with_unfolding_all exact fun _ => rfl)) | refine' Snd.ite _ _ _ | refine' Snd.and _ _ | refine' Snd.and1 _ | refine' Snd.meth (n := Str.ofString "get_token") (f := .ref 77) _ _ _ (.inr (.inr (Cf.Ok.hK (by assumption)).fGet.keep)) (by intro _; exact ⟨_, by with_unfolding_all rfl⟩) | refine' Snd.meth (n := Str.ofString "push_token") (f := .ref 84) _ _ _ (.inr (.inr (Cf.Ok.hK (by assumption)).fPush.keep)) (by intro _; exact ⟨_, by with_unfolding_all rfl⟩) | refine' Snd.meth (n := Str.ofString "append") (f := .builtin "list.append") _ _ _ (.inl ⟨_, rfl⟩) (by intro _; exact ⟨_, by with_unfolding_all rfl⟩) | refine' Snd.meth (n := Str.ofString "count") (f := .builtin "str.count") _ _ _ (.inl ⟨_, rfl⟩) (by intro _; exact ⟨_, by with_unfolding_all rfl⟩) | refine' Snd.meth (n := Str.ofString "split") (f := .builtin "str.split") _ _ _ (.inl ⟨_, rfl⟩) (by intro _; exact ⟨_, by with_unfolding_all rfl⟩) | refine' Snd.meth (n := Str.ofString "join") (f := .builtin "str.join") _ _ _ (.inl ⟨_, rfl⟩) (by intro _; exact ⟨_, by with_unfolding_all rfl⟩) | refine' Snd.meth (n := Str.ofString "get") (f := .builtin "dict.get") _ _ _ (.inl ⟨_, rfl⟩) (by intro _; exact ⟨_, by with_unfolding_all rfl⟩) | (apply Snd.callB; (focus (apply Snd.blt; (focus assumption); (focus (((with_reducible (repeat (first | exact Slot.hd | apply Slot.tl)))); done)); (focus ((with_reducible (repeat (first | exact At.hd | apply At.tl))); done)); (focus ((with_reducible (repeat (first | exact At.hd | apply At.tl))); done)))); rotate_left 2; (focus ((with_unfolding_all exact fun _ => rfl)))) | (apply Snd.callT; (focus (apply Snd.blt; (focus assumption); (focus (((with_reducible (repeat (first | exact Slot.hd | apply Slot.tl)))); done)); (focus ((with_reducible (repeat (first | exact At.hd | apply At.tl))); done)); (focus ((with_reducible (repeat (first | exact At.hd | apply At.tl))); done)))); rotate_left 2; (focus ((with_unfolding_all exact fun _ => rfl)))) | (apply Snd.callF; (focus assumption); (focus (apply Snd.glo; (focus assumption); (focus (((with_reducible (repeat (first | exact Slot.hd | apply Slot.tl)))); done)); (focus ((with_reducible (repeat (first | exact At.hd | apply At.tl))); done)))); (focus ((first | exact (Cf.Ok.hK (by assumption)).fHls | exact (Cf.Ok.hK (by assumption)).fHsv | exact (Cf.Ok.hK (by assumption)).fIter | exact (Cf.Ok.hK (by assumption)).fStrip | exact (Cf.Ok.hK (by assumption)).fCheck | exact (Cf.Ok.hK (by assumption)).fIseof | exact (Cf.Ok.hK (by assumption)).fTree | exact (Cf.Ok.hK (by assumption)).fWords | exact (Cf.Ok.hK (by assumption)).fSpelled | exact (Cf.Ok.hK (by assumption)).fLexer | exact (Cf.Ok.hK (by assumption)).fNumber | exact (Cf.Ok.hK (by assumption)).fPlay | exact (Cf.Ok.hK (by assumption)).fWorth | exact (Cf.Ok.hK (by assumption)).fRoads | exact (Cf.Ok.hK (by assumption)).fInit | exact (Cf.Ok.hK (by assumption)).fRead | exact (Cf.Ok.hK (by assumption)).fGet | exact (Cf.Ok.hK (by assumption)).fPush))); rotate_left 2; (focus ((with_unfolding_all exact fun _ => rfl)))) | refine' Snd.mkl _ | refine' Snd.mkt _ | exact SndA.nil | refine' SndA.cons _ _ (by (with_unfolding_all exact fun _ => rfl)) | exact AOk.nil | refine' AOk.cons _ (by (with_unfolding_all exact fun _ => rfl)))))
    any_goals (first | exact Snd.read Y (by ((with_reducible (repeat (first | exact Slot.hd | apply Slot.tl))))) (by (with_unfolding_all exact fun _ => rfl)) (by intro _; exact ⟨_, by with_unfolding_all rfl⟩) | refine' SndS.line Y (by ((with_reducible (repeat (first | exact Slot.hd | apply Slot.tl))))) _)
    repeat (any_goals ((with_reducible first | exact SndS.nil | refine' SndS.ret _ | refine' SndS.asg (by ((with_reducible (repeat (first | exact Slot.hd | apply Slot.tl))))) _ (by (with_unfolding_all exact fun _ => rfl)) _ | refine' SndS.aug (by ((with_reducible (repeat (first | exact Slot.hd | apply Slot.tl))))) _ _ | refine' SndS.iff _ _ _ _ | refine' SndS.exp _ (by (with_unfolding_all exact fun _ => rfl)) _ | (refine' SndS.forE (by assumption) (by assumption) (by ((with_reducible (repeat (first | exact Slot.hd | apply Slot.tl))))) (by ((with_reducible (repeat (first | exact Slot.hd | apply Slot.tl))))) (by ((with_reducible (repeat (first | exact Slot.hd | apply Slot.tl))))) _ (by (with_unfolding_all exact fun _ => rfl)) (by (with_unfolding_all exact fun _ => rfl)) _ _) | refine' SndS.allB (fun _ _ => _) (by assumption) | refine' SndC.allB (fun _ _ => _) (by assumption) | refine' Snd.allB (fun _ _ => _) (by assumption) | refine' SndS.for1 (by ((with_reducible (repeat (first | exact Slot.hd | apply Slot.tl))))) _ (by (with_unfolding_all exact fun _ _ => rfl)) _ _ | refine' SndS.wh _ _ _ | refine' SndC.cmp _ _ (by with_unfolding_all rfl) | refine' SndC.nt _ | refine' SndC.or _ _ | refine' SndC.val _ (by (with_unfolding_all exact fun _ _ => rfl)) | exact Snd.cint | exact Snd.cstr | exact Snd.cnone | exact Snd.cbool | exact Snd.cflt | (apply Snd.loc; (focus (((with_reducible (repeat (first | exact Slot.hd | apply Slot.tl)))); done))) | (apply Snd.glo; (focus assumption); (focus (((with_reducible (repeat (first | exact Slot.hd | apply Slot.tl)))); done)); (focus ((with_reducible (repeat (first | exact At.hd | apply At.tl))); done))) | (apply Snd.blt; (focus assumption); (focus (((with_reducible (repeat (first | exact Slot.hd | apply Slot.tl)))); done)); (focus ((with_reducible (repeat (first | exact At.hd | apply At.tl))); done)); (focus ((with_reducible (repeat (first | exact At.hd | apply At.tl))); done))) | refine' Snd.bin _ _ | refine' Snd.cmp _ _ (by with_unfolding_all rfl) | refine' Snd.see _ _ _ | refine' Snd.sen _ _ | refine' Snd.sne _ _ | refine' Snd.idx _ _ (by (with_unfolding_all exact fun _ _ => rfl)) | refine' Snd.att _ (by (with_unfolding_all exact fun _ => rfl)) | refine' Snd.ite _ _ _ | refine' Snd.and _ _ | refine' Snd.and1 _ | refine' Snd.meth (n := Str.ofString "get_token") (f := .ref 77) _ _ _ (.inr (.inr (Cf.Ok.hK (by assumption)).fGet.keep)) (by intro _; exact ⟨_, by with_unfolding_all rfl⟩) | refine' Snd.meth (n := Str.ofString "push_token") (f := .ref 84) _ _ _ (.inr (.inr (Cf.Ok.hK (by assumption)).fPush.keep)) (by intro _; exact ⟨_, by with_unfolding_all rfl⟩) | refine' Snd.meth (n := Str.ofString "append") (f := .builtin "list.append") _ _ _ (.inl ⟨_, rfl⟩) (by intro _; exact ⟨_, by with_unfolding_all rfl⟩) | refine' Snd.meth (n := Str.ofString "count") (f := .builtin "str.count") _ _ _ (.inl ⟨_, rfl⟩) (by intro _; exact ⟨_, by with_unfolding_all rfl⟩) | refine' Snd.meth (n := Str.ofString "split") (f := .builtin "str.split") _ _ _ (.inl ⟨_, rfl⟩) (by intro _; exact ⟨_, by with_unfolding_all rfl⟩) | refine' Snd.meth (n := Str.ofString "join") (f := .builtin "str.join") _ _ _ (.inl ⟨_, rfl⟩) (by intro _; exact ⟨_, by with_unfolding_all rfl⟩) | refine' Snd.meth (n := Str.ofString "get") (f := .builtin "dict.get") _ _ _ (.inl ⟨_, rfl⟩) (by intro _; exact ⟨_, by with_unfolding_all rfl⟩) | (apply Snd.callB; (focus (apply Snd.blt; (focus assumption); (focus (((with_reducible (repeat (first | exact Slot.hd | apply Slot.tl)))); done)); (focus ((with_reducible (repeat (first | exact At.hd | apply At.tl))); done)); (focus ((with_reducible (repeat (first | exact At.hd | apply At.tl))); done)))); rotate_left 2; (focus ((with_unfolding_all exact fun _ => rfl)))) | (apply Snd.callT; (focus (apply Snd.blt; (focus assumption); (focus (((with_reducible (repeat (first | exact Slot.hd | apply Slot.tl)))); done)); (focus ((with_reducible (repeat (first | exact At.hd | apply At.tl))); done)); (focus ((with_reducible (repeat (first | exact At.hd | apply At.tl))); done)))); rotate_left 2; (focus ((with_unfolding_all exact fun _ => rfl)))) | (apply Snd.callF; (focus assumption); (focus (apply Snd.glo; (focus assumption); (focus (((with_reducible (repeat (first | exact Slot.hd | apply Slot.tl)))); done)); (focus ((with_reducible (repeat (first | exact At.hd | apply At.tl))); done)))); (focus ((first | exact (Cf.Ok.hK (by assumption)).fHls | exact (Cf.Ok.hK (by assumption)).fHsv | exact (Cf.Ok.hK (by assumption)).fIter | exact (Cf.Ok.hK (by assumption)).fStrip | exact (Cf.Ok.hK (by assumption)).fCheck | exact (Cf.Ok.hK (by assumption)).fIseof | exact (Cf.Ok.hK (by assumption)).fTree | exact (Cf.Ok.hK (by assumption)).fWords | exact (Cf.Ok.hK (by assumption)).fSpelled | exact (Cf.Ok.hK (by assumption)).fLexer | exact (Cf.Ok.hK (by assumption)).fNumber | exact (Cf.Ok.hK (by assumption)).fPlay | exact (Cf.Ok.hK (by assumption)).fWorth | exact (Cf.Ok.hK (by assumption)).fRoads | exact (Cf.Ok.hK (by assumption)).fInit | exact (Cf.Ok.hK (by assumption)).fRead | exact (Cf.Ok.hK (by assumption)).fGet | exact (Cf.Ok.hK (by assumption)).fPush))); rotate_left 2; (focus ((with_unfolding_all exact fun _ => rfl)))) | refine' Snd.mkl _ | refine' Snd.mkt _ | exact SndA.nil | refine' SndA.cons _ _ (by (with_unfolding_all exact fun _ => rfl)) | exact AOk.nil | refine' AOk.cons _ (by (with_unfolding_all exact fun _ => rfl)))))
  case h =>
    refine ⟨i, cs, pb, ln, rfl, e, h0, fun lb => ?_⟩
    cases cs with
    | nil => exact CmpOk.eqS (TruOk.bool (k0 rfl))
    | cons x r =>
      refine CmpOk.eqS (TruOk.bool ?_)
      have hi := (List.getElem?_eq_some_iff.mp e).1
      by_cases hx : x = 10
      · subst hx
        refine ⟨i, r, pb, ln - 1, rfl, List.getElem?_set_self hi, by rw [List.count_cons_self] at lb; omega, ?_⟩
        show k _ _
        rw [List.set_set, show ln - 1 + 1 = ln by omega]
        exact k1 _ _ rfl
      · have hb : ((⟨#[x]⟩ : Str) == (Str.ofString "\n")) = false := by
          rw [Bool.eq_false_iff]; intro q
          have := congrArg (fun s : Str => s.cps.toList) (eq_of_beq q)
          exact hx (List.cons.inj this).1
        rw [hb]
        have := k1 x r rfl
        rw [if_neg hx, Int.sub_zero]
        exact this
end
end

noncomputable section
theorem owner_ci : Manifest.owners.lookup (String.ofList ['r', 'o', 't', 'a', 'r', 'e', 't', 'i', '_', 'e', 'l', 'b', 'a', 'l', 'l', 'a', 'c'].reverse) = some Manifest.sig_callable_iterator := by kernel_rfl
theorem slot_ci_next : PySem.Slot "callable_iterator" "__next__" "callable_iterator.__next__" :=
  .of (owner := "callable_iterator") (n := "__next__") (by rw [typeLookup_type, builtinLookup_eq_fast]; kernel_rfl) (by decide +kernel) (by decide +kernel) (by decide +kernel)
    (by first | exact .inl (by decide +kernel) | exact .inr (by decide +kernel)) (by rw [isSubtype_type]; kernel_rfl)
theorem entry_ci_next : entryFor table "callable_iterator.__next__" = some Builtin.«callable_iterator.__next__» := entryFor_of_tree (by kernel_rfl)
theorem args_ci_next (a : Value) : argsOk "callable_iterator.__next__" ⟨[a], []⟩ := by
  unfold argsOk; rw [signature?_of (id := "callable_iterator.__next__") (n := ['_', '_', 't', 'x', 'e', 'n', '_', '_']) (o := ['r', 'o', 't', 'a', 'r', 'e', 't', 'i', '_', 'e', 'l', 'b', 'a', 'l', 'l', 'a', 'c']) (by kernel_rfl) owner_ci]; kernel_rfl
theorem slot_ci_iter : PySem.Slot "callable_iterator" "__iter__" "callable_iterator.__iter__" :=
  .of (owner := "callable_iterator") (n := "__iter__") (by rw [typeLookup_type, builtinLookup_eq_fast]; kernel_rfl) (by decide +kernel) (by decide +kernel) (by decide +kernel)
    (by first | exact .inl (by decide +kernel) | exact .inr (by decide +kernel)) (by rw [isSubtype_type]; kernel_rfl)
theorem args_ci_iter (a : Value) : argsOk "callable_iterator.__iter__" ⟨[a], []⟩ := by
  unfold argsOk; rw [signature?_of (id := "callable_iterator.__iter__") (n := ['_', '_', 'r', 'e', 't', 'i', '_', '_']) (o := ['r', 'o', 't', 'a', 'r', 'e', 't', 'i', '_', 'e', 'l', 'b', 'a', 'l', 'l', 'a', 'c']) (by kernel_rfl) owner_ci]; kernel_rfl
theorem entry_ci_iter : entryFor table "callable_iterator.__iter__" = some Builtin.«dict_keyiterator.__iter__» :=
  entryFor_alias (id' := "dict_keyiterator.__iter__") (by kernel_rfl) (by first | rfl | decide +kernel | (unfold String.splitOn; simp +decide [String.splitOnAux])) (by decide +kernel) (by kernel_rfl)
theorem entry_iter : entryFor table "iter" = some Builtin.«iter» := entryFor_of_tree (by kernel_rfl)
theorem kind_iter : builtinKind "iter" = none := by decide +kernel
theorem plain_iter : plainId "iter" = true := by decide +kernel
theorem args_iter2 (a b : Value) : argsOk "iter" ⟨[a, b], []⟩ := by unfold argsOk; kernel_rfl
theorem lookup_mcall : typeLookup (.type "method") (Str.ofString "__call__") = pure (some (.builtin "method.__call__")) := by rw [typeLookup_type, builtinLookup_eq_fast]; kernel_rfl
section
variable {prog : Program} {w : World} {A : Around} {E : Value → Shared → Prop} {h : Heap} {ge : Array GenState} {dr : Drawn} {tk : Nat} {os : OsState} {M I x f : Addr}
theorem wpAny_callBorrowed {M : Model} {f : Value} {pos : List Value} {Q : Value → Shared → Prop}
    (hc : codeAny M A (.call f ⟨pos, []⟩) (fun r s' => match r with | .ok (.ret v) => Q v s' | .ok _ => False | .error e => E e s') s) : wpAny M A (callBorrowed f pos) Q E s := fun Γ p hΓ => by
  unfold callBorrowed
  rw [Sem.wp_call]
  refine wpCode_mono (fun r s' z => ?_) (hc _ p rfl (hΓ.enter _ none p (by intro x; cases x)))
  rcases r with e | (v | _ | _ | _) <;> first | exact z | exact z.elim | (simp; exact z)
theorem call_iter2 {t : Tok} {Q : Value → Shared → Prop} (hM : h.get? M = some (methodObj (.ref f) (.ref x))) (q : Q (.ref h.objs.size) ⟨h.push (itObj (.ref M) (.str (Str.ofString "") t) (.bool false)), ge, dr, tk, os⟩) :
    wpAny (model prog w) A (call (.builtin "iter") [.ref M, .str (Str.ofString "") t]) Q E ⟨h, ge, dr, tk, os⟩ := by
  refine Calls.call_function_entry kind_iter plain_iter entry_iter (args_iter2 _ _) ?_
  unfold Builtin.«iter»
  refine wpAny_bind (wpAny_of_eq (a := [.ref M, .str (Str.ofString "") t]) rfl ?_)
  dsimp only
  refine wpAny_bind (wpAny_specialOf (T := "method") (s := ⟨h, ge, dr, tk, os⟩) ⟨_, hM, rfl⟩ lookup_mcall ?_)
  refine wpAny_bind (wpAny_rule (wpAny_bind (wpAny_newObj_type (wpAny_pure ⟨_, rfl, q⟩))))
theorem stop_raises {α : Type} {Q : α → Shared → Prop} (hh : A.handled = none) (q : ∀ e h', Sub h h' → (Shared.mk h' ge dr tk os).TypeIs (.ref e) "StopIteration" → E (.ref e) ⟨h', ge, dr, tk, os⟩) :
    wpAny (model prog w) A (Builtin.SmallTypes.stopIteration : Sem α) Q E ⟨h, ge, dr, tk, os⟩ := by
  unfold Builtin.SmallTypes.stopIteration
  refine wpAny_bind ?_
  simp only [newExc, newTuple]
  refine wpAny_bind (wpAny_newObj_type ?_ (by size_fits))
  refine wpAny_bind (m := firstArgMember _ _) (wpAny_of_eq (a := Value.none) (by first | rfl | (simp only [firstArgMember]; rfl)) ?_)
  refine wpAny_newObj_type ?_ (by size_fits)
  simp only [raiseNew]
  refine wpAny_bind (wpAny_handled ?_)
  rw [hh]
  refine wpAny_bind (wpAny_pure (wpAny_throw (q _ _ (fun b o e => Heap.get?_push_of_some _ (Heap.get?_push_of_some _ e)) ⟨_, Heap.get?_push_size _ rfl, rfl⟩)))
theorem next_done {a b : Value} {Q : Option Value → Shared → Prop} (hh : A.handled = none) (hI : h.get? I = some (itObj a b (.bool true))) (q : ∀ h', Sub h h' → Q none ⟨h', ge, dr, tk, os⟩) :
    wpAny (model prog w) A (pyNext (.ref I)) Q E ⟨h, ge, dr, tk, os⟩ := by
  have hT : (Shared.mk h ge dr tk os).TypeIs (.ref I) "callable_iterator" := ⟨_, hI, rfl⟩
  unfold pyNext
  refine wpAny_bind (wpAny_attempt (wpAny_callSpecial?_slot (name := Str.ofString "__next__") hT slot_ci_next (wpAny_call_entry slot_ci_next hT entry_ci_next ?_ (args_ci_next _))))
  unfold Builtin.«callable_iterator.__next__»
  refine wpAny_bind (wpAny_of_eq (a := (Value.ref I, [])) rfl ?_)
  try dsimp only
  refine wpAny_bind (wpAny_field (s := ⟨h, ge, dr, tk, os⟩) hI rfl (x := .bool true) rfl ?_)
  rw [if_pos (by decide)]
  refine wpAny_bind (wpAny_rule ?_)
  refine wpAny_bind (stop_raises (A := A.in1) hh fun e h' sb hT => ?_)
  refine wpAny_bind (wpAny_isInstance (T := "StopIteration") (b := true) hT isSubtype_stop ?_)
  exact wpAny_pure (q _ sb)
theorem fn_borrows (hM : h.get? M = some (methodObj (.ref f) (.ref x))) (hf : ∃ o fd, h.get? f = some o ∧ o.data = .func fd) {Q : Bool → Shared → Prop} (q : Q true ⟨h, ge, dr, tk, os⟩) : wpAny (model prog w) A (borrowsExactly (.ref M)) Q E ⟨h, ge, dr, tk, os⟩ := by
  obtain ⟨o, fd, ho, hd⟩ := hf
  unfold borrowsExactly
  refine wpAny_bind (wpAny_load (s := ⟨_, _, _, _, _⟩) hM ?_)
  dsimp only
  rw [if_pos (by decide)]
  refine wpAny_bind (wpAny_load (s := ⟨_, _, _, _, _⟩) ho ?_)
  rw [hd]
  exact wpAny_pure q
/-- one turn: the method is called; its answer is told apart from '' -/
theorem next_call {t : Tok} {Q : Option Value → Shared → Prop} (hh : A.handled = none) (hI : h.get? I = some (itObj (.ref M) (.str (Str.ofString "") t) (.bool false)))
    (hM : h.get? M = some (methodObj (.ref f) (.ref x))) (hf : ∃ o fd, h.get? f = some o ∧ o.data = .func fd)
    (hcall : codeAny (model prog w) A.in1 (.call (.ref f) ⟨[.ref x], []⟩) (retR (fun r s₁ => ∃ str u t, r = .str str u ∧ s₁.heap.get? I = some (itObj (.ref M) (.str (Str.ofString "") t) (.bool false)) ∧ s₁.heap.get? M = some (methodObj (.ref f) (.ref x)) ∧ (∃ o fd, s₁.heap.get? f = some o ∧ o.data = .func fd) ∧
      (str ≠ Str.ofString "" → Q (some r) s₁) ∧ (str = Str.ofString "" → ∀ h' a b, (∀ b o, b ≠ I → s₁.heap.get? b = some o → h'.get? b = some o) → h'.get? I = some (itObj a b (.bool true)) → Q none ⟨h', s₁.gens, s₁.drawn, s₁.toks, s₁.os⟩)) NoE) ⟨h, ge, dr, tk, os⟩) :
    wpAny (model prog w) A (pyNext (.ref I)) Q E ⟨h, ge, dr, tk, os⟩ := by
  have hT : (Shared.mk h ge dr tk os).TypeIs (.ref I) "callable_iterator" := ⟨_, hI, rfl⟩
  unfold pyNext
  refine wpAny_bind (wpAny_attempt (wpAny_callSpecial?_slot (name := Str.ofString "__next__") hT slot_ci_next (wpAny_call_entry slot_ci_next hT entry_ci_next ?_ (args_ci_next _))))
  unfold Builtin.«callable_iterator.__next__»
  refine wpAny_bind (wpAny_of_eq (a := (Value.ref I, [])) rfl ?_)
  try dsimp only
  refine wpAny_bind (wpAny_field (s := ⟨h, ge, dr, tk, os⟩) hI rfl (x := .bool false) rfl ?_)
  rw [if_neg (by decide)]
  refine wpAny_bind (wpAny_field (s := ⟨h, ge, dr, tk, os⟩) hI rfl (x := .ref M) rfl ?_)
  refine wpAny_bind (wpAny_attempt ?_)
  unfold callOutOfASlot
  refine wpAny_bind (fn_borrows hM hf ?_)
  rw [if_pos rfl]
  refine wpAny_callBorrowed (method_call (s := ⟨h, ge, dr, tk, os⟩) hM (codeAny_mono hcall fun r s1 z => ?_))
  rcases r with e | (_ | _ | _ | r) <;> first | exact z.elim | skip
  obtain ⟨str, u, t, rfl, hI1, hM1, hf1, q1, q2⟩ := z
  obtain ⟨h1, ge1, dr1, tk1, os1⟩ := s1
  dsimp only at hI1 hM1 hf1 q2
  refine wpAny_bind (wpAny_field (s := ⟨h1, _, _, _, _⟩) hI1 rfl (x := .bool false) rfl ?_)
  rw [if_neg (by decide)]
  refine wpAny_bind (wpAny_field (s := ⟨h1, _, _, _, _⟩) hI1 rfl (x := .str (Str.ofString "") t) rfl ?_)
  refine wpAny_bind (wpAny_holding (wpAny_eqBool_str (s := ⟨h1, _, _, _, _⟩) ?_))
  by_cases hs : str = Str.ofString ""
  · subst hs
    rw [if_neg (by simp)]
    refine wpAny_bind (wpAny_rule ?_)
    refine wpAny_bind (show wpAny _ _ (field (.ref I) 0 >>= fun old => slotLetsGo "callable_iterator.__next__" old _ >>= fun _ => setField (.ref I) 0 .none >>= fun _ => setField (.ref I) 1 .none >>= fun _ => setField (.ref I) 2 (.bool true)) _ _ _ from ?_)
    refine wpAny_bind (wpAny_field (s := ⟨h1, _, _, _, _⟩) hI1 rfl (x := .ref M) rfl ?_)
    unfold slotLetsGo
    refine wpAny_bind (wpAny_bind (fn_borrows hM1 hf1 ?_))
    rw [if_pos rfl]
    refine wpAny_pure ?_
    refine wpAny_bind (wpAny_setField_rec (s := ⟨h1, _, _, _, _⟩) hI1 (show 0 < 3 by decide) fun h2 e2 s2 => ?_)
    refine wpAny_bind (wpAny_setField_rec (s := ⟨h2, _, _, _, _⟩) e2 (show 1 < 3 by decide) fun h3 e3 s3 => ?_)
    refine wpAny_setField_rec (s := ⟨h3, _, _, _, _⟩) e3 (show 2 < 3 by decide) fun h4 e4 s4 => ?_
    refine stop_raises (A := A.in1) hh fun e h' sb hT => ?_
    refine wpAny_bind (wpAny_isInstance (T := "StopIteration") (b := true) hT isSubtype_stop ?_)
    exact wpAny_pure (q2 rfl _ .none .none (fun b o n e => sb b o ((s4.2 b n).trans ((s3.2 b n).trans ((s2.2 b n).trans e)))) (sb _ _ e4))
  · rw [if_pos (by simp [Ne.symm hs])]
    exact wpAny_pure ⟨_, rfl, wpAny_pure (q1 hs)⟩
end
end

noncomputable section
section
variable {c : Cf} {x : Sx} {N : List OD} {h : Heap} {z : List Addr} {od : OD}
theorem Lg.newZ (G : Good c x N) (hn : ∀ b ∈ z, x.h.get? b = none) (nd : z.Nodup) (hs : Sub x.h h) (ho : OIs c.X (x.zs ++ [z]) (z ++ x.W) h z od) : Ex0 x.zs x.W x.h (x.zs ++ [z]) (z ++ x.W) h ∧ Lg c.X (x.zs ++ [z]) (z ++ x.W) h (N ++ [od]) := by
  have fl : (x.zs ++ [z]).flatten = x.zs.flatten ++ z := by simp
  have nD : ∀ b ∈ z, b ∉ x.W := fun b m => G.off_new (hn b m)
  have e : Ex0 x.zs x.W x.h (x.zs ++ [z]) (z ++ x.W) h := ⟨⟨_, rfl⟩, fun b m => List.mem_append_right _ m, fun b m => by
      rcases List.mem_append.mp m with m | m
      · exact .inr (hn b m)
      · exact .inl m, fun b m => by
      rw [fl] at m
      rcases List.mem_append.mp m with m | m
      · exact .inl m
      · exact .inr (hn b m), fun b o _ q => hs b o q, fun b m => .inl m⟩
  refine ⟨e, G.S.lg.step e ?_ ?_ ?_ (by simp [G.S.lg.len]) fun i od' z' hi hz => ?_⟩
  · rw [fl]
    exact List.nodup_append.mpr ⟨G.S.lg.nd, nd, fun a ha b hb q => nD b hb (q ▸ G.S.lg.sub a ha)⟩
  · intro b m
    rw [fl] at m
    rcases List.mem_append.mp m with m | m
    · exact List.mem_append_right _ (G.S.lg.sub b m)
    · exact List.mem_append_left _ m
  · intro b m
    rcases List.mem_append.mp m with m | m
    · exact .inr (by rw [fl]; exact List.mem_append_right _ m)
    · exact .inl m
  · have hl := G.S.lg.len
    by_cases q : i < x.zs.length
    · rw [List.getElem?_append_left (by omega)] at hi hz
      exact (G.S.lg.obs i od' z' hi hz).per e (fun b m => .inl (G.S.lg.sub b m)) fun b _ o q => hs b o q
    · rw [List.getElem?_append_right (by omega)] at hi hz
      rw [hl] at hi
      by_cases q2 : i - x.zs.length = 0
      · rw [q2] at hi hz; cases hi; cases hz
        exact ho
      · rw [List.getElem?_eq_none (by simp; omega)] at hz; cases hz
end
/-- iter(self._read_char, '') -/
noncomputable def eIter (i : Nat) : EvT := fun _ l N k => locV l[i]? fun d => ∃ j cs pb ln, d = .ob j ∧ N[j]? = some (.lex cs pb ln) ∧ 0 < ln ∧ (cs.length ≤ 500000 → k (.ob N.length) (N ++ [.cit j false]))
section
variable {prog : Program} {w : World} {K : Frag} {n : Nat} {B : Array GenState → Prop} {P : Pm} {i : Nat} {self : Str}
theorem Snd.iter (Y : ClsK K) (O : (lc prog w K n B).Ok) (hs : Slot self i P.vs) {ig : Nat} (hg : Slot (Str.ofString "iter") ig P.gs) (e0 : At (Str.ofString "iter") none globTab) (e1 : At (Str.ofString "iter") (.builtin "iter") bootTab) {p0 p1 p2 p3 p4 : Pos}
    (hb : ∀ env, attributeBase (.Name self p1) (Str.ofString "_read_char") env (eval (.Name self p1) env) = eval (.Name self p1) env)
    (sh : CallShape (.Name (Str.ofString "iter") p0) [.Attribute (.Name self p1) (Str.ofString "_read_char") p2, .Constant (.str (Str.ofString "")) 0 p3] p4) :
    Snd (lc prog w K n B) P (.Call (.Name (Str.ofString "iter") p0) [.Attribute (.Name self p1) (Str.ofString "_read_char") p2, .Constant (.str (Str.ofString "")) 0 p3] [] p4) (eIter i) := fun x N k G hP h => by
  subst hP
  obtain ⟨d, hd, j, cs, pb, ln, rfl, e, h0, h⟩ := locI G hs h
  rw [sh]
  refine wpAny_bind (PE.bind (k1 := fun d N' => d = .val (.builtin "iter") ∧ N' = N) (Snd.blt (c := lc prog w K n B) (P := x.P) O hg e0 e1 x N _ G rfl ⟨rfl, rfl⟩) fun zs W h1 ge tk v d N1 x1 G1 i1 hk' => ?_)
  obtain ⟨rfl, rfl⟩ := hk'
  rw [i1.val']
  refine callWith_of (P := fun _ => True) rfl (fun h _ => ⟨.machine, .inr (.inl rfl), .now⟩) ?_
  refine Calls.evalArgs_plain (Calls.spliced_cons ?_)
  rw [arm_eval_Attribute, hb]
  refine wpAny_bind (PE.bind (k1 := fun d' N' => d' = .ob j ∧ N' = N1) (Snd.loc (c := lc prog w K n B) (P := x.P) hs (x.up zs W h1 ge tk) N1 _ G1 rfl (by show locV x.l[i]? _; rw [hd]; exact ⟨rfl, rfl⟩)) fun zs2 W2 h2 ge2 tk2 v d N2 x2 G2 i2 hk2 => ?_)
  obtain ⟨rfl, rfl⟩ := hk2
  obtain ⟨a', r, rfl, hz⟩ := i2.ob'
  obtain ⟨m, F, _⟩ := G2.S.fr
  obtain ⟨a, rz, H⟩ := at_inv (G2.S.lg.obs _ _ _ e hz) h0
  obtain ⟨rfl, rfl⟩ := List.cons.inj rz
  obtain ⟨es, nn, I, le⟩ := H.inst
  have X := G2.C.X.keeps F.keep
  refine wpAny_bind (wpAny_standAt (wpAny_bind (wpAny_holding ?_)))
  refine get_bind (s := ⟨h2, ge2, x.dr, tk2, x.os⟩) X I (plainGet_of (name := Str.ofString "") (Y.pg _)).1 (findObj_fn Y.hd (Y.me (Str.ofString "_read_char", 70) (by simp)).1 Y.rg Y.rt (by decide +kernel) (le.m (Str.ofString "_read_char") (by simp))) (plainGet_of (name := Str.ofString "") (Y.pg _)).2
    (wpAny_call (fn_get (s := ⟨h2, ge2, x.dr, tk2 + 1, x.os⟩) X (beq_iff_eq.mp Y.rf) (handed_on rfl ?_)))
  refine wpAny_bind (wpAny_letTemporaryGo (wpAny_pure ?_))
  refine Calls.spliced_cons (wpAny_Constant_str (k := 0) (pos := p3) (Calls.spliced_nil ⟨trivial, ?_⟩))
  refine call_iter2 (f := 70) (x := a.x) (Heap.get?_push_size _ rfl) ?_
  have sb : Sub h2 ((h2.push (methodObj (.ref 70) (.ref a.x))).push (itObj (.ref h2.objs.size) (.str (Str.ofString "") (tk2 + 1)) (.bool false))) := fun b o e => Heap.get?_push_of_some _ (Heap.get?_push_of_some _ e)
  have nn2 : ∀ b, h2.objs.size ≤ b → h2.get? b = none := fun b hb => by
    cases q : h2.get? b with
    | none => rfl
    | some o => exact absurd (Heap.lt_size q) (Nat.not_lt.mpr hb)
  obtain ⟨e3, lg⟩ := Lg.newZ G2 (z := [h2.objs.size + 1, h2.objs.size]) (od := .cit j false) (h := (h2.push (methodObj (.ref 70) (.ref a.x))).push (itObj (.ref h2.objs.size) (.str (Str.ofString "") (tk2 + 1)) (.bool false))) (fun b m => nn2 b (by simp only [List.mem_cons, List.not_mem_nil, or_false] at m; rcases m with rfl | rfl; exact Nat.le_succ _; exact Nat.le_refl _)) (by simp) sb
    ⟨_, _, a.x, [a.P, a.D, a.S, a.I, a.D1, a.C, a.F, a.c], rfl, by rw [List.getElem?_append_left (List.getElem?_eq_some_iff.mp hz).1]; exact hz, Heap.get?_push_of_some _ (Heap.get?_push_size _ rfl), ⟨_, by
      have := Heap.get?_push_size (h2.push (methodObj (.ref 70) (.ref a.x))) (o := itObj (.ref h2.objs.size) (.str (Str.ofString "") (tk2 + 1)) (.bool false)) rfl
      rw [Heap.size_push] at this; exact this⟩⟩
  refine PE.lift G.S.lg.sub x1 (PE.lift G1.S.lg.sub x2 ⟨_, _, _, ge2, _, .ob N2.length, _, rfl, e3, ⟨G2.R, G2.C, G2.E, G2.ok, G2.S.per e3 lg, G2.b⟩, ?_, h (let ⟨_, _, _, _, hl⟩ := H.s; hl)⟩)
  rw [Heap.size_push]
  exact .ob (r := [h2.objs.size]) (by rw [G2.S.lg.len]; simp)
end
end

noncomputable section
section
variable {prog : Program} {w : World} {A : Around} {E : Value → Shared → Prop} {h : Heap} {ge : Array GenState} {dr : Drawn} {tk : Nat} {os : OsState}
theorem iter_cit {I : Addr} {a b e : Value} {Q : Value → Shared → Prop} (hI : h.get? I = some (itObj a b e)) (q : Q (.ref I) ⟨h, ge, dr, tk, os⟩) : wpAny (model prog w) A (pyIter (.ref I)) Q E ⟨h, ge, dr, tk, os⟩ := by
  have hT : (Shared.mk h ge dr tk os).TypeIs (.ref I) "callable_iterator" := ⟨_, hI, rfl⟩
  refine wpAny_pyIter_slot hT slot_ci_iter (wpAny_call_entry slot_ci_iter hT entry_ci_iter ?_ (args_ci_iter _))
  show wpAny _ _ (ret (.ref I)) _ _ _
  exact wpAny_pure ⟨_, rfl, "callable_iterator", _, hT, slot_ci_next.lookup, q⟩
end
noncomputable def citG (q : Nat) (turn : D → Loc → List OD → Lk2 → Prop) : Nat → Loc → List OD → Lk2 → Prop
  | 0, _, _, _ => False
  | n + 1, l, N, k => ∃ j e cs pb ln, N[q]? = some (.cit j e) ∧ N[j]? = some (.lex cs pb ln) ∧ 0 < ln ∧ (if e then k l N else match cs with
    | [] => k l (N.set q (.cit j true))
    | x :: r => turn (.str ⟨#[x]⟩) l (N.set j (.lex r pb ln)) fun l N => citG q turn n l N k)
noncomputable def sForC (i : Nat) (e : EvT) (b r : SxT) : SxT := fun c l N kn kc kr => e c l N fun d N => ∃ q n, d = .ob q ∧ (∃ j e, N[q]? = some (.cit j e)) ∧ citG q (fun d l N k => b c (l.set i (some d)) N k k kr) n l N fun l N => r c l N kn kc kr
section
variable {prog : Program} {w : World} {K : Frag} {n m : Nat} {B : Array GenState → Prop} {P : Pm}
theorem cit_next (Y : ClsK K) (O : (lc prog w K n B).Ok) (hn : n = m + 1 + 1) {x : Sx} {N : List OD} (G : Good (lc prog w K n B) x N) {q j : Nat} {I : Addr} {r : List Addr} {e : Bool} {cs : List Nat} {pb : List Str} {ln : Int} {Q : Option Value → Shared → Prop}
    (eq : N[q]? = some (.cit j e)) (ej : N[j]? = some (.lex cs pb ln)) (h0 : 0 < ln) (hz : x.zs[q]? = some (I :: r))
    (hd : ∀ zs W h ge tk N', Ex0 x.zs x.W x.h zs W h → Good (lc prog w K n B) (x.up zs W h ge tk) N' → (e = true → N' = N) → (e = false → cs = [] ∧ N' = N.set q (.cit j true)) → Q none (x.up zs W h ge tk).s)
    (hq : e = false → ∀ a t v zs W h ge tk, cs = a :: t → Ex0 x.zs x.W x.h zs W h → Good (lc prog w K n B) (x.up zs W h ge tk) (N.set j (.lex t pb ln)) → Mine.Is zs W h (.str ⟨#[a]⟩) v → Q (some v) (x.up zs W h ge tk).s) : wpx (lc prog w K n B) x (pyNext (.ref I)) Q := by
  obtain ⟨I', M, x', r', ez, hzj, hM, hI⟩ := G.S.lg.obs _ _ _ eq hz
  obtain ⟨rfl, rfl⟩ := List.cons.inj ez
  cases e with
  | true =>
    obtain ⟨a, b, hI⟩ := hI
    exact next_done (ge := x.ge) (dr := x.dr) (tk := x.tk) (os := x.os) G.R.h hI fun h' sb => hd x.zs x.W h' x.ge x.tk N (.ofSub sb) (G.ext sb) (fun _ => rfl) fun e => nomatch e
  | false =>
    obtain ⟨t, hI⟩ := hI
    have qj : q ≠ j := fun e => by rw [e, ej] at eq; cases eq
    have R1 : Rm x.A.in1 (m + 1) := (show Rm x.A (m + 1 + 1) from hn ▸ G.R).in1
    have fn : ∀ {h : Heap}, Sub x.g h → ∃ o fd, h.get? 70 = some o ∧ o.data = .func fd := fun s => by
      obtain ⟨oc, od, osl, doc, pm, an, ct, ho⟩ := O.hK.fRead.look
      exact ⟨_, _, s _ _ (G.C.X _ _ ho), rfl⟩
    refine next_call (h := x.h) (ge := x.ge) (dr := x.dr) (tk := x.tk) (os := x.os) G.R.h hI hM (fn G.S.sub) ?_
    have ck := read_ok (n := m + 1) (m := m) (B := B) (prog := prog) (w := w) (N := N) (k := fun d N' => (cs = [] ∧ d = .str (Str.ofString "") ∧ N' = N) ∨ ∃ a t, cs = a :: t ∧ d = .str ⟨#[a]⟩ ∧ N' = N.set j (.lex t pb ln)) Y ⟨O.hK, O.HL⟩ rfl ej h0 (fun e => .inl ⟨e, rfl, rfl⟩) fun a t e => .inr ⟨a, t, e, rfl, rfl⟩
    refine codeAny_mono (ck x.A.in1 x.g x.h x.zs x.W x.ge x.dr x.tk x.os [.ref x'] R1 G.C G.S.sub G.S.lg (fun b m => (G.S.off b m).2) G.b (.cons (.ob hzj) .nil)) fun r s' z => ?_
    rcases r with er | (_ | _ | _ | v) <;> first | exact z.elim | skip
    obtain ⟨h', ge', tk', zs', W', d, N', rfl, hb, ex, lg, i, hk⟩ := z
    have G' : Good (lc prog w K n B) (x.up zs' W' h' ge' tk') N' := ⟨G.R, G.C, G.E, G.ok, G.S.per ex lg, hb⟩
    have hz' : zs'[q]? = some [I, M] := by obtain ⟨⟨ws, rfl⟩, _⟩ := ex; exact List.getElem?_append_left (List.getElem?_eq_some_iff.mp hz).1 ▸ hz
    have eq' : N'[q]? = some (.cit j false) := by
      rcases hk with ⟨_, _, rfl⟩ | ⟨a, t, _, _, rfl⟩
      · exact eq
      · rw [List.getElem?_set_ne (Ne.symm qj)]; exact eq
    obtain ⟨I2, M2, x2, r2, ez2, hzj2, hM2, hI2⟩ := G'.S.lg.obs _ _ _ eq' hz'
    obtain ⟨rfl, ez3⟩ := List.cons.inj ez2
    obtain ⟨rfl, _⟩ := List.cons.inj ez3
    have hx : x2 = x' := by obtain ⟨⟨ws, rfl⟩, _⟩ := ex; rw [List.getElem?_append_left (List.getElem?_eq_some_iff.mp hzj).1, hzj] at hzj2; cases hzj2; rfl
    subst hx
    obtain ⟨t2, hI2⟩ := hI2
    rcases hk with ⟨e1, rfl, rfl⟩ | ⟨a, t, e1, rfl, rfl⟩
    · obtain ⟨u, rfl⟩ := i.str'
      refine ⟨_, u, t2, rfl, hI2, hM2, fn G'.S.sub, fun e => absurd rfl e, fun _ h2 a b kp hI3 => ?_⟩
      have nd : I ≠ M := by
        have := (List.pairwise_flatten.mp G'.S.lg.nd).1 _ (List.mem_of_getElem? hz')
        intro e; subst e; simp at this
      obtain ⟨e2, G2⟩ := G'.upd (tk := tk') (h' := h2) eq' hz' (fun b o nb q => kp b o (fun r => nb (r ▸ .head _)) q) (od' := .cit j true) ⟨I, M, x2, r2, rfl, hzj2, kp M _ (Ne.symm nd) hM2, _, _, hI3⟩
      exact hd zs' W' h2 ge' tk' _ (ex.trans G.S.lg.sub e2) G2 (fun e => nomatch e) fun _ => ⟨e1, rfl⟩
    · obtain ⟨u, rfl⟩ := id i.str'
      refine ⟨_, u, t2, rfl, hI2, hM2, fn G'.S.sub, fun _ => hq rfl a t _ zs' W' h' ge' tk' e1 ex G' i, fun e => ?_⟩
      have := congrArg (fun s : Str => s.cps.size) e
      rw [show (Str.ofString "").cps.size = 0 by decide +kernel] at this; exact absurd (show (1 : Nat) = 0 from this) (by decide)
theorem SndS.forC (Y : ClsK K) (O : (lc prog w K n B).Ok) (hn : n = m + 1 + 1) {nm : Str} {i : Nat} {e : Expr} {t : EvT} {px pos : Pos} {b r : List Stmt} {tb u : SxT} (hs : Slot nm i P.vs) (he : Snd (lc prog w K n B) P e t) (hf : ∀ env x, foldedSetIterable e env x = pure x) (hb : SndS (lc prog w K n B) P b tb) (hr : SndS (lc prog w K n B) P r u) : SndS (lc prog w K n B) P (.For (.Name nm px) e b [] pos :: r) (sForC i t tb u) := fun x N kn kc kr G hP h => by
  subst hP
  refine SndS.next (for_stmt (PE.bind (he x N _ G rfl h) fun zs W h1 ge tk v d N1 e1 G1 iv hk => ?_) (hf _))
  obtain ⟨q, nn, rfl, ⟨j0, e0, hq0⟩, hk⟩ := hk
  obtain ⟨I, rI, rfl, hzq⟩ := iv.ob'
  have e1' := G.toL G1 e1
  have start : ∀ {Q : Value → Shared → Prop}, Q (.ref I) (x.up zs W h1 ge tk).s → wpx (lc prog w K n B) (x.up zs W h1 ge tk) (pyIter (.ref I)) Q := fun {Q} hQ => by
    obtain ⟨I', M, x', r', ez, hzj, hM, hI⟩ := G1.S.lg.obs _ _ _ hq0 hzq
    obtain ⟨rfl, _⟩ := List.cons.inj ez
    cases e0 with
    | true => obtain ⟨a, b, hI⟩ := hI; exact iter_cit (ge := ge) (dr := x.dr) (tk := tk) (os := x.os) hI hQ
    | false => obtain ⟨t, hI⟩ := hI; exact iter_cit (ge := ge) (dr := x.dr) (tk := tk) (os := x.os) hI hQ
  refine start ?_
  refine for_turns (Inv (lc prog w K n B) x fun n' l zs' N' => zs'[q]? = some (I :: rI) ∧ citG q (fun d l N k => tb (lc prog w K n B) (l.set i (some d)) N k k kr) n' l N' fun l N => u (lc prog w K n B) l N kn kc kr) ?_ nn ⟨x.l, zs, W, h1, ge, tk, N1, rfl, e1', G1, hzq, hk⟩
  rintro n' s' ⟨l, zs', W', h', ge', tk', N', rfl, ex, G2, hz, hk⟩
  cases n' with
  | zero => exact hk.elim
  | succ n' =>
    obtain ⟨j, e, cs, pb, ln, eq, ej, h0, hk⟩ := hk
    have pre : ∀ {zs2 W2 h2}, ExL (x.to l zs' W' h' ge' tk') zs2 W2 h2 → zs2[q]? = some (I :: rI) := fun e => by obtain ⟨⟨ws, rfl⟩, _⟩ := e; exact List.getElem?_append_left (List.getElem?_eq_some_iff.mp hz).1 ▸ hz
    refine cit_next Y O hn G2 eq ej h0 hz (fun zs2 W2 h2 ge2 tk2 N2 e2 G3 q1 q2 => ?_) fun he a t v zs2 W2 h2 ge2 tk2 hcs e2 G3 iv2 => ?_
    · have hk' : u (lc prog w K n B) l N2 kn kc kr := by
        cases e with
        | true => rw [q1 rfl]; exact hk
        | false => obtain ⟨rfl, rfl⟩ := q2 rfl; exact hk
      exact to_lift G (ExL.trans (l := l) (ge := ge') (tk := tk') G ex (G2.toL G3 e2)) (hr _ N2 kn kc kr G3 rfl hk')
    · subst he hcs
      have hk : tb (lc prog w K n B) (l.set i (some (.str ⟨#[a]⟩))) (N'.set j (.lex t pb ln)) _ _ kr := hk
      refine wpAny_pure (wpAny_assign_Name (store G3 hs iv2 fun h4 tk4 e4 _ G4 => ?_))
      have e24 := ExL.trans (l := l) (ge := ge2) (tk := tk2) G2 (G2.toL G3 e2) e4
      refine wpAny_mono (hb _ _ _ _ kr G4 rfl hk) (fun f s4 z => ?_) fun _ _ z => z
      obtain ⟨l5, zs5, W5, h5, ge5, tk5, N5, rfl, e5, G5, q⟩ := z
      have e25 := ExL.trans (l := l.set i (some (.str ⟨#[a]⟩))) (ge := ge2) (tk := tk4) G2 e24 e5
      have ex5 := ExL.trans (l := l) (ge := ge') (tk := tk') G ex e25
      cases f with
      | next => exact ⟨n', Nat.lt_succ_self n', l5, zs5, W5, h5, ge5, tk5, N5, rfl, ex5, G5, pre e25, q⟩
      | cont => exact ⟨n', Nat.lt_succ_self n', l5, zs5, W5, h5, ge5, tk5, N5, rfl, ex5, G5, pre e25, q⟩
      | brk => exact q.elim
      | ret v => exact ⟨l5, zs5, W5, h5, ge5, tk5, N5, rfl, ex5, G5, q⟩
end
end

noncomputable section
section
variable {prog : Program} {w : World} {K : Frag} {n : Nat} {B : Array GenState → Prop} {N : List OD} {k : Kt} {i : Nat} {cs : List Nat} {pb : List Str} {p : Str} {ln : Int}
theorem AttOk.ws {c : Cf} (O : c.Ok) (e : N[i]? = some (.lex cs pb ln)) (h0 : 0 < ln) (hk : k (.str (Str.ofString "\n\t\r ")) N) : AttOk c (.ob i) (Str.ofString "whitespace") N k := fun x v b G i' => by
  obtain ⟨a, r, rfl, hz⟩ := i'.ob'
  obtain ⟨m, F, _⟩ := G.S.fr
  exact O.HL.ws (ge := x.ge) (dr := x.dr) (os := x.os) (tk := x.tk) F G.C.X (G.S.lg.obs _ _ _ e hz) h0 rfl fun t tk' => .mkT G .str hk
theorem AttOk.pbk {c : Cf} (O : c.Ok) (e : N[i]? = some (.lex cs pb ln)) (h0 : 0 < ln) (hk : k (.sub i 1) N) : AttOk c (.ob i) (Str.ofString "pushback") N k := fun x v b G i' => by
  obtain ⟨a, r, rfl, hz⟩ := i'.ob'
  obtain ⟨m, F, _⟩ := G.S.fr
  exact O.HL.pbk (ge := x.ge) (dr := x.dr) (os := x.os) (tk := x.tk) F G.C.X (G.S.lg.obs _ _ _ e hz) h0 rfl fun a tk' ha => .mkT G (.sub hz ha) hk
theorem GetOk.pop {c : Cf} (O : c.Ok) (e : N[i]? = some (.lex cs pb ln)) (h0 : 0 < ln) : GetOk c (.sub i 1) (Str.ofString "pop") N (.builtin "list.pop") := fun x v pl Q G i' h => by
  obtain ⟨z, a, rfl, hz, hj, hx⟩ := G.lexAt e i'
  exact O.HL.popM (ge := x.ge) (dr := x.dr) (os := x.os) (tk := x.tk) hx h0 hj h
theorem FnOk.pop (O : (lc prog w K n B).Ok) (e : N[i]? = some (.lex cs (p :: pb) ln)) (h0 : 0 < ln) (hk : k (.str p) (N.set i (.lex cs pb ln))) : FnOk (lc prog w K n B) (.builtin "list.pop") [.sub i 1, .int 0] N k := fn2 fun x v u G i' j => by
  obtain ⟨z, a, rfl, hz, hj, hx⟩ := G.lexAt e i'
  obtain ⟨t, rfl⟩ := j.int'
  refine O.HL.popC (ge := x.ge) (dr := x.dr) (os := x.os) (tk := x.tk) hx h0 hj fun h' u tk' kp hx' => ?_
  obtain ⟨e2, G2⟩ := G.upd (tk := tk') (h' := h') e hz kp (od' := .lex cs pb ln) hx'
  exact ⟨_, _, _, _, _, _, _, rfl, e2, G2, .str, hk⟩
theorem GetOk.app (e : N[i]? = some (.lex cs pb ln)) (h0 : 0 < ln) : GetOk (lc prog w K n B) (.sub i 1) (Str.ofString "append") N (.builtin "list.append") := fun x v pl Q G i' h => by
  obtain ⟨z, a, rfl, hz, hj, hx⟩ := G.lexAt e i'
  obtain ⟨a, rfl, HH⟩ := at_inv hx h0
  cases hj
  obtain ⟨vs, n, ep, hs, hl⟩ := HH.p
  exact Calls.getMethod_list_append ep rfl rfl h
theorem FnOk.app (e : N[i]? = some (.lex cs [] ln)) (h0 : 0 < ln) (hk : k .none (N.set i (.lex cs [p] ln))) : FnOk (lc prog w K n B) (.builtin "list.append") [.sub i 1, .str p] N k := fn2 fun x v u G i' j => by
  obtain ⟨z, a, rfl, hz, hj, hx⟩ := G.lexAt e i'
  obtain ⟨a, rfl, HH⟩ := at_inv hx h0
  cases hj
  obtain ⟨t, rfl⟩ := j.str'
  obtain ⟨vs, n, ep, hs, hl⟩ := HH.p
  cases hs
  refine append_at ep (fun h' sb hh => ?_) (show 0 ≤ _ from Nat.zero_le _)
  have kp : ∀ b o, b ≠ a.P → x.h.get? b = some o → h'.get? b = some o := fun b o hb e => (sb.2 b hb).trans e
  obtain ⟨e2, G2⟩ := G.upd (tk := x.tk) (h' := h') e hz (fun b o nb => kp b o fun r => nb (r ▸ by simp [LexA.all])) (od' := .lex cs [p] ln) (.inl ⟨a, rfl, HH.setP (pb' := [p]) (vs' := [.str p t]) kp hh (.cons _ _ .nil) (show 1 ≤ 1000 by decide)⟩)
  exact ⟨_, _, _, _, _, _, _, rfl, e2, G2, .none, hk⟩
end
theorem in_ws {x : Nat} : (!(Builtin.Str.occurrences (Str.ofString "\n\t\r ") ⟨#[x]⟩ 0 (Str.ofString "\n\t\r ").length 1).isEmpty) = isW x := by
  rw [PySem.StrLaws.found_one, show (Str.ofString "\n\t\r ").cps.toList = [10, 9, 13, 32] by decide +kernel]
  unfold isW
  by_cases h1 : x = 10 <;> by_cases h2 : x = 9 <;> by_cases h3 : x = 13 <;> by_cases h4 : x = 32 <;> simp [h1, h2, h3, h4]
/-- the ledger amid a token -/
noncomputable def nst (N : List OD) (i : Nat) (ln : Int) (cs : List Nat) (b : Bool) : List OD := N.set i (.lex cs [] ln) ++ [.cit i b]
section
variable {N : List OD} {i : Nat} {ln : Int} {cs r : List Nat} {b : Bool}
theorem nst_q : (nst N i ln cs b)[N.length]? = some (.cit i b) := by simp [nst]
theorem nst_i (hi : i < N.length) : (nst N i ln cs b)[i]? = some (.lex cs [] ln) := by
  unfold nst; rw [List.getElem?_append_left (by simpa using hi), List.getElem?_set_self hi]
theorem nst_r (hi : i < N.length) : (nst N i ln cs b).set i (.lex r [] ln) = nst N i ln r b := by
  unfold nst; rw [List.set_append_left _ _ (by simpa using hi), List.set_set]
theorem nst_e : (nst N i ln cs b).set N.length (.cit i true) = nst N i ln cs true := by
  unfold nst; rw [List.set_append_right _ _ (by simp)]; simp
end
theorem SndS.cont {c : Cf} {P : Pm} {r : List Stmt} {pos : Pos} : SndS c P (.Continue pos :: r) sCont := fun x N kn kc kr G hP h => SndS.next (wpAny_Continue ⟨x.l, x.zs, x.W, x.h, x.ge, x.tk, N, rfl, G.toL (zs := x.zs) (W := x.W) (h := x.h) (ge := x.ge) (tk := x.tk) G .refl, G, h⟩)
noncomputable def tEsc : SxT := sIf (tVal (eCmp .Eq (eLoc 3) (eCst (.str (Str.ofString "\\"))))) (sAsg 3 (eMeth (.ref 70) (eLoc 0) (Str.ofString "_read_char") aNil) sNil) sNil sNil
noncomputable def tIn (S : EvT) : SxT := sIf (tVal S) (sRet (eLoc 1)) tEsc (sAug .Add 1 (eLoc 3) sNil)
noncomputable def eWs : EvT := eCmp .In (eLoc 3) (eAtt (eLoc 0) (Str.ofString "whitespace"))
noncomputable def eQt : EvT := eCmp .Eq (eLoc 3) (eCst (.str (Str.ofString "\"")))
noncomputable def tOut : SxT := sIf (tVal eWs) sCont sNil (sIf (tVal eQt) (sForC 3 (eLoc 2) (tIn eQt) sNil) (sIf (tVal (eCmp .Eq (eLoc 3) (eCst (.str (Str.ofString "\\"))))) (sAsg 3 (eMeth (.ref 70) (eLoc 0) (Str.ofString "_read_char") aNil) sNil) sNil (sAug .Add 1 (eLoc 3) (sForC 3 (eLoc 2) (tIn eWs) sNil))) sNil)
noncomputable def t77 : SxT := sIf (tVal (eAtt (eLoc 0) (Str.ofString "pushback"))) (sRet (eMeth (.builtin "list.pop") (eAtt (eLoc 0) (Str.ofString "pushback")) (Str.ofString "pop") (aCons (eCst (.int 0)) aNil))) sNil (sAsg 1 (eCst (.str (Str.ofString ""))) (sAsg 2 (eIter 0) (sForC 3 (eLoc 2) tOut (sRet (eLoc 1)))))
section
variable {prog : Program} {w : World} {K : Frag} {n m : Nat} {B : Array GenState → Prop} {N : List OD} {i : Nat} {ln : Int} {kr : Kt}
noncomputable abbrev lx (N : List OD) (i : Nat) (u : List Nat) (o : Option D) : Loc := [some (.ob i), some (sD u), some (.ob N.length), o]
theorem isq {x : Nat} : ((⟨#[x]⟩ : Str) == Str.ofString "\"") = isQ x := by
  rw [str_eq1 (u := [x]) (show Str.ofString "\"" = ⟨#[34]⟩ by decide +kernel)]; by_cases h : x = 34 <;> simp [isQ, h]
theorem isb {x : Nat} : ((⟨#[x]⟩ : Str) == Str.ofString "\\") = decide (x = 92) := by
  rw [str_eq1 (u := [x]) (show Str.ofString "\\" = ⟨#[92]⟩ by decide +kernel)]; simp
theorem esc_ok (Y : ClsK K) (O : (lc prog w K n B).Ok) (hn : n = m + 1) (hi : i < N.length) (h0 : 0 < ln) {u cs : List Nat} {x : Nat} {b : Bool} {kn kc : Lk2} (k1 : x ≠ 92 → kn (lx N i u (some (sD [x]))) (nst N i ln cs b)) (k2 : x = 92 → cs = [] → kn (lx N i u (some (sD []))) (nst N i ln [] b))
    (k3 : x = 92 → ∀ d r, cs = d :: r → kn (lx N i u (some (sD [d]))) (nst N i ln r b)) : tEsc (lc prog w K n B) (lx N i u (some (sD [x]))) (nst N i ln cs b) kn kc kr := by
  refine CmpOk.eqS (TruOk.bool ?_)
  rw [show ((⟨[x].toArray⟩ : Str) == Str.ofString "\\") = decide (x = 92) from isb]
  refine cond_split (fun h => ?_) fun h => k1 (of_decide_eq_false h)
  have h := of_decide_eq_true h
  have e := nst_i (N := N) (ln := ln) (cs := cs) (b := b) hi
  refine ⟨GetOk.lexm O e h0 (by simp), FnOk.ofCall (read_ok (m := m) Y O hn e h0 (fun c0 => ?_) fun d r c1 => ?_)⟩
  · have := k2 h c0
    rw [c0]; exact this
  · have := k3 h d r c1
    rw [nst_r hi]; exact this
theorem aug_ok {c : Cf} {u v : List Nat} {o : Option D} {N' : List OD} {r : SxT} {kn kc : Lk2} (hl : u.length + v.length ≤ 500000) (h : r c (lx N i (u ++ v) (some (sD v))) N' kn kc kr) : sAug .Add 1 (eLoc 3) r c (lx N i u (some (sD v))) N' kn kc kr := by
  refine InOk.addS ?_ ?_
  · show u.toArray.size + v.toArray.size ≤ _
    rw [List.size_toArray, List.size_toArray]; exact Nat.le_trans hl (by decide)
  · rw [sD_add]; exact h
theorem run_92 {p : Nat → Bool} (h : p 92 = false) : run p [92] = ([], []) := by
  unfold run; rw [h, if_neg Bool.false_ne_true, if_pos rfl]
theorem inner_ok (Y : ClsK K) (O : (lc prog w K n B).Ok) (hn : n = m + 1) (hi : i < N.length) (h0 : 0 < ln) {p : Nat → Bool} {S : EvT} (p92 : p 92 = false) (hS : ∀ {x u cs b k}, k (.bool (p x)) (nst N i ln cs b) → S (lc prog w K n B) (lx N i u (some (sD [x]))) (nst N i ln cs b) k) {Kk : Lk2}
    (hK : ∀ u o, kr (sD u) (nst N i ln [] true) → Kk (lx N i u o) (nst N i ln [] true)) : ∀ (f : Nat) (cs u : List Nat) (o : Option D), cs.length < f → u.length + cs.length ≤ 500000 → (∀ b, kr (sD (u ++ (run p cs).1)) (nst N i ln (run p cs).2 b)) →
    citG N.length (fun d l N' k => tIn S (lc prog w K n B) (l.set 3 (some d)) N' k k kr) f (lx N i u o) (nst N i ln cs false) Kk := by
  intro f
  induction f with
  | zero => intro cs u o h; exact absurd h (Nat.not_lt_zero _)
  | succ f ih =>
    intro cs u o hf hl hr
    refine ⟨i, false, cs, [], ln, nst_q, nst_i hi, h0, ?_⟩
    cases cs with
    | nil =>
      have h1 := hr true
      rw [show run p [] = ([], []) from rfl, List.append_nil] at h1
      show Kk _ ((nst N i ln [] false).set N.length (.cit i true))
      rw [nst_e]; exact hK u o h1
    | cons x r =>
      rw [List.length_cons] at hf hl
      show tIn S _ _ ((nst N i ln (x :: r) false).set i (.lex r [] ln)) _ _ _
      rw [nst_r hi]
      refine hS (TruOk.bool (cond_split (fun h => ?_) fun h => esc_ok (m := m) Y O hn hi h0 (fun hx => ?_) (fun hx e => ?_) fun hx d t e => ?_))
      · have h1 := hr false
        rw [run_end h, List.append_nil] at h1
        exact h1
      · refine aug_ok (o := o) (by simp only [List.length_cons, List.length_nil]; (first | lia | omega)) (ih r (u ++ [x]) _ (by (first | lia | omega)) (by rw [List.length_append]; simp only [List.length_cons, List.length_nil]; (first | lia | omega)) fun b => ?_)
        have h1 := hr b
        rw [run_c h hx] at h1
        rw [List.append_assoc]; exact h1
      · subst hx e
        refine aug_ok (o := o) (by simp only [List.length_nil]; (first | lia | omega)) (ih [] (u ++ []) _ (by simp only [List.length_nil] at hf ⊢; (first | lia | omega)) (by simp only [List.length_append, List.length_nil]; (first | lia | omega)) fun b => ?_)
        have h1 := hr b
        rw [run_92 h] at h1
        rw [List.append_nil]; exact h1
      · subst hx e
        simp only [List.length_cons] at hf hl
        refine aug_ok (o := o) (by simp only [List.length_cons, List.length_nil]; (first | lia | omega)) (ih t (u ++ [d]) _ (by (first | lia | omega)) (by rw [List.length_append]; simp only [List.length_cons, List.length_nil]; (first | lia | omega)) fun b => ?_)
        have h1 := hr b
        rw [run_e h] at h1
        rw [List.append_assoc]; exact h1
theorem outer_ok (Y : ClsK K) (O : (lc prog w K n B).Ok) (hn : n = m + 1) (hi : i < N.length) (h0 : 0 < ln) {kn kc : Lk2} : ∀ (f : Nat) (cs : List Nat) (o : Option D), cs.length + 1 < f → cs.length ≤ 500000 → (∀ b, kr (sD (tok cs).1) (nst N i ln (tok cs).2 b)) →
    citG N.length (fun d l N' k => tOut (lc prog w K n B) (l.set 3 (some d)) N' k k kr) f (lx N i [] o) (nst N i ln cs false) (fun l N' => sRet (eLoc 1) (lc prog w K n B) l N' kn kc kr) := by
  intro f
  induction f with
  | zero => intro cs o h; exact absurd h (Nat.not_lt_zero _)
  | succ f ih =>
    intro cs o hf hl hr
    refine ⟨i, false, cs, [], ln, nst_q, nst_i hi, h0, ?_⟩
    have hw : ∀ {x u cs b k}, k (.bool (isW x)) (nst N i ln cs b) → eWs (lc prog w K n B) (lx N i u (some (sD [x]))) (nst N i ln cs b) k := fun {x u cs b k} h => AttOk.ws O (nst_i hi) h0 (CmpOk.inS (by rw [in_ws]; exact h))
    have hq : ∀ {x u cs b k}, k (.bool (isQ x)) (nst N i ln cs b) → eQt (lc prog w K n B) (lx N i u (some (sD [x]))) (nst N i ln cs b) k := fun {x u cs b k} h => CmpOk.eqS (by rw [show ((⟨[x].toArray⟩ : Str) == Str.ofString "\"") = isQ x from isq]; exact h)
    have hK : ∀ u o, kr (sD u) (nst N i ln [] true) → citG N.length (fun d l N' k => tOut (lc prog w K n B) (l.set 3 (some d)) N' k k kr) f (lx N i u o) (nst N i ln [] true) (fun l N' => sRet (eLoc 1) (lc prog w K n B) l N' kn kc kr) := fun u o h => by
      cases f with
      | zero => exact absurd hf (by (first | lia | omega))
      | succ f => exact ⟨i, true, [], [], ln, nst_q, nst_i hi, h0, h⟩
    cases cs with
    | nil =>
      have h1 := hr true
      show sRet (eLoc 1) (lc prog w K n B) _ ((nst N i ln [] false).set N.length (.cit i true)) kn kc kr
      rw [nst_e]; exact h1
    | cons x r =>
      rw [List.length_cons] at hf hl
      show tOut _ _ ((nst N i ln (x :: r) false).set i (.lex r [] ln)) _ _ _
      rw [nst_r hi]
      have inn : ∀ {p : Nat → Bool} {S : EvT} {cs u o}, p 92 = false → (∀ {x u cs b k}, k (.bool (p x)) (nst N i ln cs b) → S (lc prog w K n B) (lx N i u (some (sD [x]))) (nst N i ln cs b) k) → u.length + cs.length ≤ 500000 → (∀ b, kr (sD (u ++ (run p cs).1)) (nst N i ln (run p cs).2 b)) → sForC 3 (eLoc 2) (tIn S) sNil (lc prog w K n B) (lx N i u o) (nst N i ln cs false)
          (fun l N' => citG N.length (fun d l N' k => tOut (lc prog w K n B) (l.set 3 (some d)) N' k k kr) f l N' fun l N' => sRet (eLoc 1) (lc prog w K n B) l N' kn kc kr) (fun l N' => citG N.length (fun d l N' k => tOut (lc prog w K n B) (l.set 3 (some d)) N' k k kr) f l N' fun l N' => sRet (eLoc 1) (lc prog w K n B) l N' kn kc kr) kr :=
        fun {p S cs u o} p92 hS hl hr => ⟨N.length, cs.length + 1, rfl, ⟨i, false, nst_q⟩, inner_ok (m := m) Y O hn hi h0 p92 hS hK _ cs u o (Nat.lt_succ_self _) hl hr⟩
      refine hw (u := []) (TruOk.bool (cond_split (fun h => ?_) fun h => hq (u := []) (TruOk.bool (cond_split (fun h2 => ?_) fun h2 => esc_ok (m := m) Y O hn hi h0 (fun hx => ?_) (fun hx e => ?_) fun hx d t e => ?_))))
      · exact ih r _ (by (first | lia | omega)) (by (first | lia | omega)) fun b => by have h1 := hr b; rw [tok_skip h] at h1; exact h1
      · obtain rfl : x = 34 := by simpa [isQ] using h2
        exact inn (p := isQ) rfl hq (by simp only [List.length_nil]; (first | lia | omega)) hr
      all_goals have h34 : x ≠ 34 := fun e => by subst e; exact absurd h2 (by decide)
      · refine aug_ok (o := o) (by simp only [List.length_cons, List.length_nil]; (first | lia | omega)) (inn (p := isW) rfl hw (by simp only [List.length_append, List.length_cons, List.length_nil]; (first | lia | omega)) fun b => ?_)
        have h1 := hr b
        rw [tok_u h h34, run_c h hx] at h1
        exact h1
      · subst hx e
        exact aug_ok (o := o) (by simp only [List.length_nil]; (first | lia | omega)) (inn (p := isW) rfl hw (by simp only [List.length_append, List.length_nil]; (first | lia | omega)) hr)
      · subst hx e
        simp only [List.length_cons] at hl
        refine aug_ok (o := o) (by simp only [List.length_cons, List.length_nil]; (first | lia | omega)) (inn (p := isW) rfl hw (by simp only [List.length_append, List.length_cons, List.length_nil]; (first | lia | omega)) fun b => ?_)
        have h1 := hr b
        rw [tok_u h h34, run_e h] at h1
        exact h1
end
@[reducible] noncomputable def P77 : Pm := ⟨scopeOf (meth 8 2), [Str.ofString "self", Str.ofString "token", Str.ofString "fiter", Str.ofString "ch"], [Str.ofString "iter"]⟩
theorem ok77 : P77.Ok := .of (by kernel_rfl) (by decide +kernel) (by decide +kernel) (by decide +kernel)
theorem pl77 : Plain (meth 8 2) := ⟨by kernel_rfl, by kernel_rfl, by decide +kernel⟩
@[reducible] noncomputable def P84 : Pm := ⟨scopeOf (meth 8 3), [Str.ofString "self", Str.ofString "token"], []⟩
theorem ok84 : P84.Ok := .of (by kernel_rfl) (by decide +kernel) (by decide +kernel) (by decide +kernel)
theorem pl84 : Plain (meth 8 3) := ⟨by kernel_rfl, by kernel_rfl, by decide +kernel⟩
section
variable {prog : Program} {w : World} {K : Frag} {n m : Nat} {B : Array GenState → Prop} {N : List OD} {k : Kt} {i : Nat} {cs : List Nat} {p : Str} {pb : List Str} {ln : Int}
theorem get_fn (Y : ClsK K) (O : (lc prog w K n B).Ok) (hn : n = m + 1 + 1 + 1) (h : t77 (lc prog w K (m + 1 + 1) B) [some (.ob i), none, none, none] N (fun _ N => k .none N) (fun _ N => k .none N) k) : CallOk (lc prog w K n B) 77 [.ob i] N k := by
  refine' enterX (P := P77) (m := 1) (n := m + 1 + 1) hn O.hK.fGet rfl ok77 pl77 rfl (by decide) ?b (by conv => lhs; whnf) ?s ?h
  case b => intro vs hv; intros; obtain ⟨a, rfl⟩ := List.length_eq_one_iff.mp hv; kernel_rfl
  case s =>
    have O : ((lc prog w K n B).wN (m + 1 + 1)).Ok := ⟨O.hK, O.HL⟩
    repeat (any_goals (first
      | exact SndS.cont
      | refine' SndS.forC (m := m) Y O rfl (by ((with_reducible (repeat (first | exact Slot.hd | apply Slot.tl))))) _ (by (with_unfolding_all exact fun _ _ => rfl)) _ _
      | exact Snd.iter Y O (by ((with_reducible (repeat (first | exact Slot.hd | apply Slot.tl))))) (by ((with_reducible (repeat (first | exact Slot.hd | apply Slot.tl))))) (by (with_reducible (repeat (first | exact At.hd | apply At.tl)))) (by (with_reducible (repeat (first | exact At.hd | apply At.tl)))) (by (with_unfolding_all exact fun _ => rfl)) (by (with_unfolding_all exact fun _ => rfl))
      | refine' Snd.meth (n := Str.ofString "_read_char") (f := .ref 70) _ _ _ (.inr (.inr O.hK.fRead.keep)) (by intro _; exact ⟨_, by with_unfolding_all rfl⟩)
      | refine' Snd.meth (n := Str.ofString "pop") (f := .builtin "list.pop") _ _ _ (.inl ⟨_, rfl⟩) (by intro _; exact ⟨_, by with_unfolding_all rfl⟩)
      | (with_reducible first | exact SndS.nil | refine' SndS.ret _ | refine' SndS.asg (by ((with_reducible (repeat (first | exact Slot.hd | apply Slot.tl))))) _ (by (with_unfolding_all exact fun _ => rfl)) _ | refine' SndS.aug (by ((with_reducible (repeat (first | exact Slot.hd | apply Slot.tl))))) _ _ | refine' SndS.iff _ _ _ _ | refine' SndS.exp _ (by (with_unfolding_all exact fun _ => rfl)) _ | (refine' SndS.forE (by assumption) (by assumption) (by ((with_reducible (repeat (first | exact Slot.hd | apply Slot.tl))))) (by ((with_reducible (repeat (first | exact Slot.hd | apply Slot.tl))))) (by ((with_reducible (repeat (first | exact Slot.hd | apply Slot.tl))))) _ (by (with_unfolding_all exact fun _ => rfl)) (by (with_unfolding_all exact fun _ => rfl)) _ _) | refine' SndS.allB (fun _ _ => _) (by assumption) | refine' SndC.allB (fun _ _ => _) (by assumption) | refine' Snd.allB (fun _ _ => _) (by assumption) | refine' SndS.for1 (by ((with_reducible (repeat (first | exact Slot.hd | apply Slot.tl))))) _ (by (with_unfolding_all exact fun _ _ => rfl)) _ _ | refine' SndS.wh _ _ _ | refine' SndC.cmp _ _ (by with_unfolding_all rfl) | refine' SndC.nt _ | refine' SndC.or _ _ | refine' SndC.val _ (by (with_unfolding_all exact fun _ _ => rfl)) | exact Snd.cint | exact Snd.cstr | exact Snd.cnone | exact Snd.cbool | exact Snd.cflt | (apply Snd.loc; (focus (((with_reducible (repeat (first | exact Slot.hd | apply Slot.tl)))); done))) | (apply Snd.glo; (focus assumption); (focus (((with_reducible (repeat (first | exact Slot.hd | apply Slot.tl)))); done)); (focus ((with_reducible (repeat (first | exact At.hd | apply At.tl))); done))) | (apply Snd.blt; (focus assumption); (focus (((with_reducible (repeat (first | exact Slot.hd | apply Slot.tl)))); done)); (focus ((with_reducible (repeat (first | exact At.hd | apply At.tl))); done)); (focus ((with_reducible (repeat (first | exact At.hd | apply At.tl))); done))) | refine' Snd.bin _ _ | refine' Snd.cmp _ _ (by with_unfolding_all rfl) | refine' Snd.see _ _ _ | refine' Snd.sen _ _ | refine' Snd.sne _ _ | refine' Snd.idx _ _ (by (with_unfolding_all exact fun _ _ => rfl)) | refine' Snd.att _ (by (with_unfolding_all exact fun _ => rfl)) | refine' Snd.ite _ _ _ | refine' Snd.and _ _ | refine' Snd.and1 _ | refine' Snd.meth (n := Str.ofString "get_token") (f := .ref 77) _ _ _ (.inr (.inr (Cf.Ok.hK (by assumption)).fGet.keep)) (by intro _; exact ⟨_, by with_unfolding_all rfl⟩) | refine' Snd.meth (n := Str.ofString "push_token") (f := .ref 84) _ _ _ (.inr (.inr (Cf.Ok.hK (by assumption)).fPush.keep)) (by intro _; exact ⟨_, by with_unfolding_all rfl⟩) | refine' Snd.meth (n := Str.ofString "append") (f := .builtin "list.append") _ _ _ (.inl ⟨_, rfl⟩) (by intro _; exact ⟨_, by with_unfolding_all rfl⟩) | refine' Snd.meth (n := Str.ofString "count") (f := .builtin "str.count") _ _ _ (.inl ⟨_, rfl⟩) (by intro _; exact ⟨_, by with_unfolding_all rfl⟩) | refine' Snd.meth (n := Str.ofString "split") (f := .builtin "str.split") _ _ _ (.inl ⟨_, rfl⟩) (by intro _; exact ⟨_, by with_unfolding_all rfl⟩) | refine' Snd.meth (n := Str.ofString "join") (f := .builtin "str.join") _ _ _ (.inl ⟨_, rfl⟩) (by intro _; exact ⟨_, by with_unfolding_all rfl⟩) | refine' Snd.meth (n := Str.ofString "get") (f := .builtin "dict.get") _ _ _ (.inl ⟨_, rfl⟩) (by intro _; exact ⟨_, by with_unfolding_all rfl⟩) | (apply Snd.callB; (focus (apply Snd.blt; (focus assumption); (focus (((with_reducible (repeat (first | exact Slot.hd | apply Slot.tl)))); done)); (focus ((with_reducible (repeat (first | exact At.hd | apply At.tl))); done)); (focus ((with_reducible (repeat (first | exact At.hd | apply At.tl))); done)))); rotate_left 2; (focus ((with_unfolding_all exact fun _ => rfl)))) | (apply Snd.callT; (focus (apply Snd.blt; (focus assumption); (focus (((with_reducible (repeat (first | exact Slot.hd | apply Slot.tl)))); done)); (focus ((with_reducible (repeat (first | exact At.hd | apply At.tl))); done)); (focus ((with_reducible (repeat (first | exact At.hd | apply At.tl))); done)))); rotate_left 2; (focus ((with_unfolding_all exact fun _ => rfl)))) | (apply Snd.callF; (focus assumption); (focus (apply Snd.glo; (focus assumption); (focus (((with_reducible (repeat (first | exact Slot.hd | apply Slot.tl)))); done)); (focus ((with_reducible (repeat (first | exact At.hd | apply At.tl))); done)))); (focus ((first | exact (Cf.Ok.hK (by assumption)).fHls | exact (Cf.Ok.hK (by assumption)).fHsv | exact (Cf.Ok.hK (by assumption)).fIter | exact (Cf.Ok.hK (by assumption)).fStrip | exact (Cf.Ok.hK (by assumption)).fCheck | exact (Cf.Ok.hK (by assumption)).fIseof | exact (Cf.Ok.hK (by assumption)).fTree | exact (Cf.Ok.hK (by assumption)).fWords | exact (Cf.Ok.hK (by assumption)).fSpelled | exact (Cf.Ok.hK (by assumption)).fLexer | exact (Cf.Ok.hK (by assumption)).fNumber | exact (Cf.Ok.hK (by assumption)).fPlay | exact (Cf.Ok.hK (by assumption)).fWorth | exact (Cf.Ok.hK (by assumption)).fRoads | exact (Cf.Ok.hK (by assumption)).fInit | exact (Cf.Ok.hK (by assumption)).fRead | exact (Cf.Ok.hK (by assumption)).fGet | exact (Cf.Ok.hK (by assumption)).fPush))); rotate_left 2; (focus ((with_unfolding_all exact fun _ => rfl)))) | refine' Snd.mkl _ | refine' Snd.mkt _ | exact SndA.nil | refine' SndA.cons _ _ (by (with_unfolding_all exact fun _ => rfl)) | exact AOk.nil | refine' AOk.cons _ (by (with_unfolding_all exact fun _ => rfl)))))
  case h => exact h
theorem push_ok (O : (lc prog w K n B).Ok) (hn : n = m + 1) (h0 : 0 < ln) (e : N[i]? = some (.lex cs [] ln)) (h : k .none (N.set i (.lex cs [p] ln))) : CallOk (lc prog w K n B) 84 [.ob i, .str p] N k := by
  refine' enterX (P := P84) (m := 2) (n := m) hn O.hK.fPush rfl ok84 pl84 rfl (by decide) ?b (by conv => lhs; whnf) ?s ?h
  case b => intro vs hv; intros; rcases vs with _ | ⟨a, _ | ⟨b, _ | _⟩⟩ <;> first | (simp at hv; done) | kernel_rfl
  case s =>
    have O : ((lc prog w K n B).wN m).Ok := ⟨O.hK, O.HL⟩
    repeat (any_goals ((with_reducible first | exact SndS.nil | refine' SndS.ret _ | refine' SndS.asg (by ((with_reducible (repeat (first | exact Slot.hd | apply Slot.tl))))) _ (by (with_unfolding_all exact fun _ => rfl)) _ | refine' SndS.aug (by ((with_reducible (repeat (first | exact Slot.hd | apply Slot.tl))))) _ _ | refine' SndS.iff _ _ _ _ | refine' SndS.exp _ (by (with_unfolding_all exact fun _ => rfl)) _ | (refine' SndS.forE (by assumption) (by assumption) (by ((with_reducible (repeat (first | exact Slot.hd | apply Slot.tl))))) (by ((with_reducible (repeat (first | exact Slot.hd | apply Slot.tl))))) (by ((with_reducible (repeat (first | exact Slot.hd | apply Slot.tl))))) _ (by (with_unfolding_all exact fun _ => rfl)) (by (with_unfolding_all exact fun _ => rfl)) _ _) | refine' SndS.allB (fun _ _ => _) (by assumption) | refine' SndC.allB (fun _ _ => _) (by assumption) | refine' Snd.allB (fun _ _ => _) (by assumption) | refine' SndS.for1 (by ((with_reducible (repeat (first | exact Slot.hd | apply Slot.tl))))) _ (by (with_unfolding_all exact fun _ _ => rfl)) _ _ | refine' SndS.wh _ _ _ | refine' SndC.cmp _ _ (by with_unfolding_all rfl) | refine' SndC.nt _ | refine' SndC.or _ _ | refine' SndC.val _ (by (with_unfolding_all exact fun _ _ => rfl)) | exact Snd.cint | exact Snd.cstr | exact Snd.cnone | exact Snd.cbool | exact Snd.cflt | (apply Snd.loc; (focus (((with_reducible (repeat (first | exact Slot.hd | apply Slot.tl)))); done))) | (apply Snd.glo; (focus assumption); (focus (((with_reducible (repeat (first | exact Slot.hd | apply Slot.tl)))); done)); (focus ((with_reducible (repeat (first | exact At.hd | apply At.tl))); done))) | (apply Snd.blt; (focus assumption); (focus (((with_reducible (repeat (first | exact Slot.hd | apply Slot.tl)))); done)); (focus ((with_reducible (repeat (first | exact At.hd | apply At.tl))); done)); (focus ((with_reducible (repeat (first | exact At.hd | apply At.tl))); done))) | refine' Snd.bin _ _ | refine' Snd.cmp _ _ (by with_unfolding_all rfl) | refine' Snd.see _ _ _ | refine' Snd.sen _ _ | refine' Snd.sne _ _ | refine' Snd.idx _ _ (by (with_unfolding_all exact fun _ _ => rfl)) | refine' Snd.att _ (by (with_unfolding_all exact fun _ => rfl)) | refine' Snd.ite _ _ _ | refine' Snd.and _ _ | refine' Snd.and1 _ | refine' Snd.meth (n := Str.ofString "get_token") (f := .ref 77) _ _ _ (.inr (.inr (Cf.Ok.hK (by assumption)).fGet.keep)) (by intro _; exact ⟨_, by with_unfolding_all rfl⟩) | refine' Snd.meth (n := Str.ofString "push_token") (f := .ref 84) _ _ _ (.inr (.inr (Cf.Ok.hK (by assumption)).fPush.keep)) (by intro _; exact ⟨_, by with_unfolding_all rfl⟩) | refine' Snd.meth (n := Str.ofString "append") (f := .builtin "list.append") _ _ _ (.inl ⟨_, rfl⟩) (by intro _; exact ⟨_, by with_unfolding_all rfl⟩) | refine' Snd.meth (n := Str.ofString "count") (f := .builtin "str.count") _ _ _ (.inl ⟨_, rfl⟩) (by intro _; exact ⟨_, by with_unfolding_all rfl⟩) | refine' Snd.meth (n := Str.ofString "split") (f := .builtin "str.split") _ _ _ (.inl ⟨_, rfl⟩) (by intro _; exact ⟨_, by with_unfolding_all rfl⟩) | refine' Snd.meth (n := Str.ofString "join") (f := .builtin "str.join") _ _ _ (.inl ⟨_, rfl⟩) (by intro _; exact ⟨_, by with_unfolding_all rfl⟩) | refine' Snd.meth (n := Str.ofString "get") (f := .builtin "dict.get") _ _ _ (.inl ⟨_, rfl⟩) (by intro _; exact ⟨_, by with_unfolding_all rfl⟩) | (apply Snd.callB; (focus (apply Snd.blt; (focus assumption); (focus (((with_reducible (repeat (first | exact Slot.hd | apply Slot.tl)))); done)); (focus ((with_reducible (repeat (first | exact At.hd | apply At.tl))); done)); (focus ((with_reducible (repeat (first | exact At.hd | apply At.tl))); done)))); rotate_left 2; (focus ((with_unfolding_all exact fun _ => rfl)))) | (apply Snd.callT; (focus (apply Snd.blt; (focus assumption); (focus (((with_reducible (repeat (first | exact Slot.hd | apply Slot.tl)))); done)); (focus ((with_reducible (repeat (first | exact At.hd | apply At.tl))); done)); (focus ((with_reducible (repeat (first | exact At.hd | apply At.tl))); done)))); rotate_left 2; (focus ((with_unfolding_all exact fun _ => rfl)))) | (apply Snd.callF; (focus assumption); (focus (apply Snd.glo; (focus assumption); (focus (((with_reducible (repeat (first | exact Slot.hd | apply Slot.tl)))); done)); (focus ((with_reducible (repeat (first | exact At.hd | apply At.tl))); done)))); (focus ((first | exact (Cf.Ok.hK (by assumption)).fHls | exact (Cf.Ok.hK (by assumption)).fHsv | exact (Cf.Ok.hK (by assumption)).fIter | exact (Cf.Ok.hK (by assumption)).fStrip | exact (Cf.Ok.hK (by assumption)).fCheck | exact (Cf.Ok.hK (by assumption)).fIseof | exact (Cf.Ok.hK (by assumption)).fTree | exact (Cf.Ok.hK (by assumption)).fWords | exact (Cf.Ok.hK (by assumption)).fSpelled | exact (Cf.Ok.hK (by assumption)).fLexer | exact (Cf.Ok.hK (by assumption)).fNumber | exact (Cf.Ok.hK (by assumption)).fPlay | exact (Cf.Ok.hK (by assumption)).fWorth | exact (Cf.Ok.hK (by assumption)).fRoads | exact (Cf.Ok.hK (by assumption)).fInit | exact (Cf.Ok.hK (by assumption)).fRead | exact (Cf.Ok.hK (by assumption)).fGet | exact (Cf.Ok.hK (by assumption)).fPush))); rotate_left 2; (focus ((with_unfolding_all exact fun _ => rfl)))) | refine' Snd.mkl _ | refine' Snd.mkt _ | exact SndA.nil | refine' SndA.cons _ _ (by (with_unfolding_all exact fun _ => rfl)) | exact AOk.nil | refine' AOk.cons _ (by (with_unfolding_all exact fun _ => rfl)))))
  case h =>
    have O : ((lc prog w K n B).wN m).Ok := ⟨O.hK, O.HL⟩
    exact AttOk.pbk O e h0 ⟨GetOk.app e h0, FnOk.app e h0 h⟩
theorem lexFn (Y : ClsK K) (O : (lc prog w K n B).Ok) : LexFn (lc prog w K n B) where
  get0 := fun {m N k i cs ln} hm h0 e pn hk => by
    obtain ⟨m, rfl⟩ : ∃ m', m = m' + 1 + 1 + 1 := ⟨m - 3, by (first | lia | omega)⟩
    have O' : (lc prog w K (m + 1 + 1) B).Ok := ⟨O.hK, O.HL⟩
    have hi := (List.getElem?_eq_some_iff.mp e).1
    refine (get_fn (n := m + 1 + 1 + 1) (m := m) Y ⟨O.hK, O.HL⟩ rfl ?_).cut
    refine AttOk.pbk O' e h0 (TruOk.pb O' e h0 ⟨i, cs, [], ln, rfl, e, h0, fun hl => ⟨N.length, cs.length + 2, rfl, ⟨i, false, by simp⟩, ?_⟩⟩)
    have en : N ++ [.cit i false] = nst N i ln cs false := by
      unfold nst
      rw [show N.set i (.lex cs [] ln) = N by
        obtain ⟨h1, h2⟩ := List.getElem?_eq_some_iff.mp e
        rw [← h2]; exact List.set_getElem_self h1]
    rw [en]
    refine outer_ok (m := m + 1) Y O' rfl hi h0 (cs.length + 2) cs none (Nat.lt_succ_self _) hl fun b => ?_
    have et : (nst N i ln (tok cs).2 b).take N.length = N.set i (.lex (tok cs).2 [] ln) := by
      unfold nst; exact List.take_left' (by simp)
    rw [et]
    exact ⟨trivial, (pn.set trivial).clo, hk⟩
  get1 := fun {m N k i cs p pb ln} hm h0 e pn hk => by
    obtain ⟨m, rfl⟩ : ∃ m', m = m' + 1 + 1 + 1 := ⟨m - 3, by (first | lia | omega)⟩
    have O' : (lc prog w K (m + 1 + 1) B).Ok := ⟨O.hK, O.HL⟩
    refine get_fn (n := m + 1 + 1 + 1) (m := m) Y ⟨O.hK, O.HL⟩ rfl (AttOk.pbk O' e h0 (TruOk.pb O' e h0 (AttOk.pbk O' e h0 ⟨GetOk.pop O' e h0, FnOk.pop O' e h0 hk⟩)))
  push := fun {m N k i cs ln u} hm h0 e pn hk => by
    obtain ⟨m, rfl⟩ : ∃ m', m = m' + 1 := ⟨m - 1, by (first | lia | omega)⟩
    exact push_ok (n := m + 1) (m := m) ⟨O.hK, O.HL⟩ rfl h0 e hk
end
end

noncomputable section
section
variable {prog : Program} {w : World} {K : Frag} {A : Around} {E : Value → Shared → Prop} {g h B : Heap} {L x dx : Addr} {ge : Array GenState} {dr : Drawn} {tk n : Nat} {os : OsState} {l : List (Str × Value)} {es : List DictEntry} {nm : Str} {v fp : Value} {R : Result → Shared → Prop}
theorem self_set (Y : ClsK K) (F : Fl g L h l) (X : K.In g) (hx : h.get? x = some (instObj 87 dx)) (hd : h.get? dx = some (dictOf es n)) (hL : dx ≠ L) (hg : g.get? dx = none) (hxd : x ≠ dx) (hn : nm ∈ [Str.ofString "lineno", Str.ofString "instream", Str.ofString "whitespace", Str.ofString "pushback", Str.ofString "read"]) (hl : (getL nm es).isSome = true)
    (hz : ∀ hs k, (putL nm hs k v es).length ≤ 1000) {Q : Unit → Shared → Prop}
    (q : ∀ h' hs k tk' n', Heap.SameBut dx h h' → Fl g L h' l → h'.get? x = some (instObj 87 dx) → h'.get? dx = some (dictOf (putL nm hs (.str nm k) v es) n') → Q () ⟨h', ge, dr, tk', os⟩) : wpAny (model prog w) A (setAttr (.ref x) nm v) Q E ⟨h, ge, dr, tk, os⟩ := by
  obtain ⟨m, F, k⟩ := F
  exact set_at (s := ⟨h, ge, dr, tk, os⟩) (X.keeps F.keep) ⟨hx, rfl, rfl, hd⟩ rfl Y.sa Y.po (Y.tk _ hn) Y.hd hl (hz _ _) fun h' sb hh => q h' _ _ _ _ sb ⟨m, F.change sb hL hg, k⟩ ((sb.2 x hxd).trans hx) hh
theorem init_run (Y : ClsK K) (hK : KOk K) (Rm' : Rm A (n + 1)) (C : Cx K B) (sb : Sub B h) (hx' : h.get? x = some (instObj 87 dx)) (hd : h.get? dx = some emptyDict) (nx : B.get? x = none) (nd : B.get? dx = none) (hne : x ≠ dx)
    (q : ∀ h' tk' h1 h2 h3 h4 k1 k2 k3 k4 t3 t n P, Keep [dx] h h' → h'.get? dx = some (dictOf (lexE h1 h2 h3 h4 k1 k2 k3 k4 t3 (.int 1 t) fp P) n) → h'.get? P = some (listOf #[] 0) → h.get? P = none → x < P → R (.ok (.ret .none)) ⟨h', ge, dr, tk', os⟩) :
    codeAny (model prog w) A (.call (.ref 63) ⟨[.ref x, fp], []⟩) R ⟨h, ge, dr, tk, os⟩ := by
  refine codeAny_mono (R := retR (fun v s' => R (.ok (.ret v)) s') NoE) (enter (news := [(x, instObj 87 dx), (dx, emptyDict)]) (binds := [(Str.ofString "self", .ref x), (Str.ofString "fp", fp)]) (kt := [(Str.ofString "self", .local), (Str.ofString "fp", .local)]) (names := [Str.ofString "self", Str.ofString "fp"]) (B := B)
    (s := ⟨h, ge, dr, tk, os⟩) Rm' hK.fInit C sb (List.forall_mem_cons.mpr ⟨⟨hx', nx⟩, List.forall_mem_singleton.mpr ⟨hd, nd⟩⟩) (by intros; kernel_rfl) (.of (by kernel_rfl) (by decide +kernel)) (List.forall_mem_cons.mpr ⟨.head _, List.forall_mem_singleton.mpr (.tail _ (.head _))⟩) rfl (by decide +kernel) (by conv => lhs; whnf) ⟨by kernel_rfl, by kernel_rfl, by decide +kernel⟩ ?_) fun r s' z => ?_
  · intro g L h₁ sg Cg F N kp
    have S : Sc (scopeOf (meth 8 0)) [(Str.ofString "self", .local), (Str.ofString "fp", .local)] := .of (by kernel_rfl) (by decide +kernel)
    have nx' := N _ (.head _)
    have nd' := N _ (.tail _ (.head _))
    have me : ∀ {tk : Nat} {h' : Heap} {P : Pos} {A : Around} {Q E : Value → Shared → Prop}, Fl g L h' [(Str.ofString "self", .ref x), (Str.ofString "fp", fp)] → Q (.ref x) ⟨h', ge, dr, tk, os⟩ → wpAny (model prog w) A (eval (.Name (Str.ofString "self") P) (envX (Str.ofString "_netrclex.__init__") (scopeOf (meth 8 0)) L 63 (.ref 62) [])) Q E ⟨h', ge, dr, tk, os⟩ := fun F q => nmL (s := ⟨_, ge, dr, _, os⟩) S F (.hd) (.hd) q
    refine wpAny_execs_cons (plainObj_wpAny_Assign_Attribute (wpAny_Constant_int (me F (self_set (es := []) (n := 0) Y F Cg.X nx'.1 nd'.1 nd'.2.1 nd'.2.2 hne (by simp) (by kernel_rfl) (fun _ _ => by show 1 ≤ 1000; decide) fun h2 q1 k1 tk2 n2 s2 F hx hd => ?_))) (hs := by with_unfolding_all rfl))
    refine wpAny_execs_cons (plainObj_wpAny_Assign_Attribute (nmL (s := ⟨_, _, _, _, _⟩) S F (by (with_reducible (repeat (first | exact At.hd | apply At.tl)))) (by (with_reducible (repeat (first | exact At.hd | apply At.tl)))) (me F (self_set Y F Cg.X hx hd nd'.2.1 nd'.2.2 hne (by simp) (by kernel_rfl) (fun _ _ => by show 2 ≤ 1000; decide) fun h3 q2 k2 tk3 n3 s3 F hx hd => ?_))) (hs := by with_unfolding_all rfl))
    refine wpAny_execs_cons (plainObj_wpAny_Assign_Attribute (wpAny_Constant_str (me F (self_set Y F Cg.X hx hd nd'.2.1 nd'.2.2 hne (by simp) (by kernel_rfl) (fun _ _ => by show 3 ≤ 1000; decide) fun h4 q3 k3 tk4 n4 s4 F hx hd => ?_))) (hs := by with_unfolding_all rfl))
    refine wpAny_execs_cons (plainObj_wpAny_Assign_Attribute (wpAny_List (args_nil ⟨Nat.zero_le _, ?_⟩)) (hs := by with_unfolding_all rfl))
    have F5 : Fl g L (h4.push (listOf #[] 0)) [(Str.ofString "self", .ref x), (Str.ofString "fp", fp)] := let ⟨m, F, k⟩ := F; ⟨m, F.push _, k⟩
    refine me F5 (self_set Y F5 Cg.X (Heap.get?_push_of_some _ hx) (Heap.get?_push_of_some _ hd) nd'.2.1 nd'.2.2 hne (by simp) (by kernel_rfl) (fun _ _ => by show 4 ≤ 1000; decide) fun h6 q4 k4 tk6 n6 s6 F6 hx6 hd6 => wpAny_execs_nil ?_)
    have lx := Heap.lt_size hx
    have ld := Heap.lt_size hd
    have kg : ∀ b o, b ≠ x → b ≠ dx → h.get? b = some o → g.get? b = some o := fun b o h1 h2 e => kp b o (fun m => by
      rcases List.mem_cons.mp m with r | m
      · exact h1 r
      · exact h2 (List.mem_singleton.mp m)) e
    have e6 : h6.get? dx = some (dictOf (lexE q1 q2 q3 q4 k1 k2 k3 k4 _ (.int 1 _) fp (h4.objs.size)) n6) := hd6
    refine q h6 _ q1 q2 q3 q4 k1 k2 k3 k4 _ _ n6 h4.objs.size (fun b o nb e => ?_) e6 ((s6.2 _ (Nat.ne_of_gt ld)).trans (Heap.get?_push_size _ rfl)) ?_ lx
    · by_cases hb : b = x
      · subst hb; rw [hx'] at e; cases e; exact hx6
      · obtain ⟨m, F6, _⟩ := F6; exact F6.keep b o (kg b o hb (fun r => nb (r ▸ .head _)) e)
    · cases e : h.get? h4.objs.size with
      | none => rfl
      | some o =>
        obtain ⟨m, F, _⟩ := F
        exact absurd (Heap.lt_size (F.keep _ _ (kg _ o (Nat.ne_of_gt lx) (Nat.ne_of_gt ld) e))) (Nat.lt_irrefl _)
  · rcases r with e | (v | _ | _ | _) <;> first | exact z | exact z.elim
theorem inst_run (Y : ClsK K) (hK : KOk K) (Rm' : Rm A (n + 1 + 1)) (C : Cx K B) (sb : Sub B h)
    (q : ∀ h' tk' h1 h2 h3 h4 k1 k2 k3 k4 t3 t n P, Sub h h' → h'.get? (h.objs.size + 1) = some (instObj 87 h.objs.size) → h'.get? h.objs.size = some (dictOf (lexE h1 h2 h3 h4 k1 k2 k3 k4 t3 (.int 1 t) fp P) n) → h'.get? P = some (listOf #[] 0) → h.get? P = none → h.objs.size + 1 < P → R (.ok (.ret (.ref (h.objs.size + 1)))) ⟨h', ge, dr, tk', os⟩) :
    codeAny (model prog w) A (.call (.ref 87) ⟨[fp], []⟩) R ⟨h, ge, dr, tk, os⟩ := by
  have X : K.In h := fun b o e => sb b o (C.X b o e)
  refine make_core (makes_of X Y.mi) (looks_findIn X Y.ini) (fun self => bind_fn X self Y.it) (.inl rfl) ?_
  have nn : ∀ {b}, h.objs.size ≤ b → h.get? b = none := fun {b} hb => by
    cases e : h.get? b with
    | none => rfl
    | some o => exact absurd (Heap.lt_size e) (Nat.not_lt.mpr hb)
  have nB : ∀ {b}, h.objs.size ≤ b → B.get? b = none := fun {b} hb => by
    cases e : B.get? b with
    | none => rfl
    | some o => have := nn hb; rw [sb _ _ e] at this; cases this
  have k : Sub h ((h.push emptyDict).push (instObj 87 h.objs.size)) := fun b o e => Heap.get?_push_of_some _ (Heap.get?_push_of_some _ e)
  have hx : ((h.push emptyDict).push (instObj 87 h.objs.size)).get? (h.objs.size + 1) = some (instObj 87 h.objs.size) := by
    have := Heap.get?_push_size (h.push emptyDict) (o := instObj 87 h.objs.size) rfl
    rw [Heap.size_push] at this; exact this
  have hd : ((h.push emptyDict).push (instObj 87 h.objs.size)).get? h.objs.size = some emptyDict := Heap.get?_push_of_some _ (Heap.get?_push_size _ rfl)
  refine init_run (n := n) (B := B) Y hK ?_ C (fun b o e => k b o (sb b o e)) hx hd (nB (Nat.le_succ _)) (nB (Nat.le_refl _)) (Nat.succ_ne_self _) fun h' tk' h1 h2 h3 h4 k1 k2 k3 k4 t3 t n P kp hd' hP nP lt => ⟨rfl, ?_⟩
  · exact ⟨Rm'.h, by have := Rm'.d; show A.depth + 1 + (n + 1) ≤ 900; (first | lia | omega), by have := Rm'.u; show A.units + 1 + 10 * (n + 1) ≤ 9800; (first | lia | omega)⟩
  have ne : ∀ {b o}, h.get? b = some o → b ∉ [h.objs.size] := fun e m => by rw [List.mem_singleton.mp m] at e; exact absurd (Heap.lt_size e) (Nat.lt_irrefl _)
  refine q h' tk' h1 h2 h3 h4 k1 k2 k3 k4 t3 t n P (fun b o e => kp b o (ne e) (k b o e)) (kp _ _ (by simp) hx) hd' hP ?_ lt
  exact nn (Nat.le_of_lt (Nat.lt_trans (Nat.lt_succ_self _) lt))
end
section
variable {X : LexSpec} {zs : Zs} {W z : List Addr} {h h' : Heap} {N N' : List OD} {od : OD}
theorem Ex0.grow (hn : ∀ b ∈ z, h.get? b = none) (k : Keep zs.flatten h h') : Ex0 zs W h (zs ++ [z]) (z ++ W) h' := by
  have fl : (zs ++ [z]).flatten = zs.flatten ++ z := by simp
  refine ⟨⟨_, rfl⟩, fun b m => List.mem_append_right _ m, fun b m => ?_, fun b m => ?_, k, fun b m => .inl m⟩
  · rcases List.mem_append.mp m with m | m
    · exact .inr (hn b m)
    · exact .inl m
  · rw [fl] at m
    rcases List.mem_append.mp m with m | m
    · exact .inl m
    · exact .inr (hn b m)
theorem Lg.grow (S : Lg X zs W h N) (hl : N'.length = N.length) (hn : ∀ b ∈ z, h.get? b = none) (nd : z.Nodup) (k : Keep zs.flatten h h') (obs : ∀ (j : Nat) (od' : OD) (z' : List Addr), N'[j]? = some od' → zs[j]? = some z' → OIs X (zs ++ [z]) (z ++ W) h' z' od') (ho : OIs X (zs ++ [z]) (z ++ W) h' z od) :
    Lg X (zs ++ [z]) (z ++ W) h' (N' ++ [od]) := by
  have fl : (zs ++ [z]).flatten = zs.flatten ++ z := by simp
  have nD : ∀ b ∈ z, b ∉ W := fun b m w => by obtain ⟨o, e⟩ := S.live b w; rw [hn b m] at e; cases e
  refine S.step (Ex0.grow (W := W) hn k) ?_ ?_ ?_ (by simp [hl, S.len]) fun i od' z' hi hz => ?_
  · rw [fl]
    exact List.nodup_append.mpr ⟨S.nd, nd, fun a ha b hb q => nD b hb (q ▸ S.sub a ha)⟩
  · intro b m
    rw [fl] at m
    rcases List.mem_append.mp m with m | m
    · exact List.mem_append_right _ (S.sub b m)
    · exact List.mem_append_left _ m
  · intro b m
    rcases List.mem_append.mp m with m | m
    · exact .inr (by rw [fl]; exact List.mem_append_right _ m)
    · exact .inl m
  · have hl' := S.len
    by_cases q : i < zs.length
    · rw [List.getElem?_append_left (by (first | lia | omega))] at hi hz
      exact obs i od' z' hi hz
    · rw [List.getElem?_append_right (by (first | lia | omega))] at hi hz
      rw [hl, hl'] at hi
      by_cases q2 : i - zs.length = 0
      · rw [q2] at hi hz; cases hi; cases hz
        exact ho
      · rw [List.getElem?_eq_none (by simp; (first | lia | omega))] at hz; cases hz
end
theorem nodup9 : ∀ {C S D1 I P1 c F D x P : Nat}, C < S → S < D1 → D1 < I → I < P1 → P1 < c → c < F → F < D → D < x → x < P → [x, P, D, S, I, D1, C, F, c].Nodup := by
  intros
  simp only [List.nodup_cons, List.mem_cons, List.not_mem_nil, or_false, not_or, List.nodup_nil, and_true, not_false_eq_true]
  (first | lia | omega)
theorem strs_of : ∀ {vs : List Value} {ns : List Nat}, vs.length = ns.length → (∀ (j : Nat) (v : Value), vs[j]? = some v → ∃ (c : Nat) (u : Tok), ns[j]? = some c ∧ v = Value.str ⟨#[c]⟩ u) → StrsAre vs (ns.map fun k => (⟨#[k]⟩ : Str))
  | [], [], _, _ => .nil
  | v :: vs, n :: ns, hl, h => by
    obtain ⟨c, u, e, rfl⟩ := h 0 v rfl
    cases e
    exact .cons _ _ (strs_of (Nat.succ.inj hl) fun j w e => h (j + 1) w e)
section
variable {prog : Program} {w : World} {K : Frag} {n : Nat} {B : Array GenState → Prop}
theorem lexMk (Y : ClsK K) (hK : KOk K) (hd : codeHdIn K 126 122 = true) : LexMk (lc prog w K n B) where
  make := fun {m N k t} hm pn hN ht hk A Bh h zs W ge dr tk os vs R C sb lg hz hB il => by
    obtain ⟨v, r, rfl, i1, il⟩ := il.inv
    obtain rfl := il.invNil
    obtain ⟨tt, rfl⟩ := i1.str'
    obtain ⟨m, rfl⟩ : ∃ m', m = m' + 1 + 1 + 1 := ⟨m - 3, by (first | lia | omega)⟩
    replace R : Rm A (m + 1 + 1 + 1) := R
    have z0 : ∃ z0, zs[0]? = some z0 := ⟨_, List.getElem?_eq_getElem (by rw [← lg.len]; exact (List.getElem?_eq_some_iff.mp hN).1)⟩
    obtain ⟨z0, hz0⟩ := z0
    have o0 := lg.obs 0 _ _ hN hz0
    have o1 : z0 = [122] ∧ ∃ ps, h.get? 122 = some (tabObj ps) ∧ TriplesOk ps.toList ∧ codeAmong lamE.pos ps.toList = none := by
      rcases o0 with ⟨a, rfl, H⟩ | ⟨rfl, _, _, ⟨_, r⟩ | ⟨e, _⟩⟩
      · have := H.lb; simp at this
      · exact ⟨rfl, r⟩
      · cases e
    obtain ⟨rfl, ps, hT, tr, na⟩ := o1
    have m122 : 122 ∈ zs.flatten := List.mem_flatten.mpr ⟨_, List.mem_of_getElem? hz0, .head _⟩
    obtain ⟨oc, od, osl, doc, pm, an, ct, ho⟩ := hK.fLexer.look
    have X := C.X.keeps sb
    refine codeAny_call_cells (s := ⟨h, ge, dr, tk, os⟩) (binds := [(Str.ofString "text", .str ⟨t.toArray⟩ tt)]) R.room (X _ _ ho) rfl (C.lim.keeps sb) (codeRec_of X hK.fLexer.code) rfl (by kernel_rfl) rfl (List.forall_mem_singleton.mpr (.inl (by kernel_rfl))) (fun s₁ I => ?_) (by kernel_rfl) (by kernel_rfl) (by kernel_rfl)
    obtain ⟨h1, tk1, rfl, k1⟩ := I.done
    have k1 : Sub h h1 := k1
    have cell1 := I.cell (Str.ofString "signs") (h.objs.size + 1) (by kernel_rfl)
    have sg : Sub Bh (hideAll h zs.flatten) := fun b o e => hideAll_get _ (sb b o e) (fun m => by rw [hz b m] at e; cases e)
    have kg : ∀ b o, b ∉ zs.flatten → h.get? b = some o → (hideAll h zs.flatten).get? b = some o := fun b o n e => hideAll_get _ e n
    have ng : ∀ b ∈ zs.flatten, (hideAll h zs.flatten).get? b = none := fun b m => hideAll_none _ m
    have hog : Sub (hideAll h zs.flatten) h := fun b o e => of_hideAll _ e
    have F1 : Fl (hideAll h zs.flatten) h.objs.size h1 [(Str.ofString "text", .str ⟨t.toArray⟩ tt)] := ⟨_, ⟨I.toInCall.ns, fun b o e => k1 b o (hog b o e), Nat.le_of_eq (hideAll_size _ _)⟩, fun p hp => by rw [List.mem_singleton.mp hp]; kernel_rfl⟩
    clear I
    generalize hideAll h zs.flatten = g at sg kg ng hog F1
    have Cg := C.keeps sg
    have S : Sc (scopeOf (stAt 65)) [(Str.ofString "text", .local), (Str.ofString "source", .local), (Str.ofString "signs", .cell), (Str.ofString "list", .globalImplicit), (Str.ofString "_netrclex", .globalImplicit)] := .of (by kernel_rfl) (by decide +kernel)
    have hsz : (⟨t.toArray⟩ : Str).cps.size ≤ sizeLine := Nat.le_trans (show t.toArray.size ≤ 500000 by rw [List.size_toArray]; exact ht) (by decide)
    have nD : ∀ {b : Addr}, h.objs.size ≤ b → b ∉ zs.flatten := fun {b} hb m => by
      obtain ⟨o, e⟩ := lg.live b (lg.sub b m); exact absurd (Heap.lt_size e) (Nat.not_lt.mpr hb)
    have new : ∀ {b : Addr}, h.objs.size ≤ b → h.get? b = none := fun {b} hb => by
      cases e : h.get? b with
      | none => rfl
      | some o => exact absurd (Heap.lt_size e) (Nat.not_lt.mpr hb)
    have newg : ∀ {b : Addr}, h.objs.size ≤ b → g.get? b = none := fun {b} hb => by
      cases e : g.get? b with
      | none => rfl
      | some o => have := hog b o e; rw [new hb] at this; cases this
    let EE := envX (Str.ofString "_law_lexer") (scopeOf (stAt 65)) h.objs.size 127 (.ref 126) [(Str.ofString "signs", h.objs.size + 1)]
    refine wpAny_mono (E := NoE) (Q := fun fl s' => PC (lc prog w K (m + 1 + 1 + 1) B) zs W h dr os k (retv fl) s') (?_ : wpAny (model prog w) (A.deeper EE) (execs (bodyOf (stAt 65)) EE) _ _ ⟨h1, ge, dr, tk1, os⟩) (fun f s' q => by cases f <;> exact q) (fun _ _ q => q.elim)
    have R1 : Rm (A.deeper EE) (m + 1 + 1) := R.deeper EE
    generalize A.deeper EE = A1 at R1
    rw [show bodyOf (stAt 65) = _ by conv => lhs; whnf]
    refine wpAny_execs_cons (wpAny_Assign_Name (Call_ (nmB (s := ⟨_, _, _, _, _⟩) hK S F1 Cg (by (with_reducible (repeat (first | exact At.hd | apply At.tl)))) (by (with_reducible (repeat (first | exact At.hd | apply At.tl)))) (by (with_reducible (repeat (first | exact At.hd | apply At.tl)))) (callWith_type1 (args_cons (nmL (s := ⟨_, _, _, _, _⟩) S F1 (by (with_reducible (repeat (first | exact At.hd | apply At.tl)))) (by (with_reducible (repeat (first | exact At.hd | apply At.tl)))) (args_nil (call_list_str (s := ⟨_, _, _, _, _⟩) R1.h _ _ (hn := hsz) fun h2 tk2 acc' cnt k2 hS acc => ?_))) (he := by with_unfolding_all rfl)) (he := by with_unfolding_all rfl) (hplain := by with_unfolding_all rfl))) (he := by with_unfolding_all rfl)) (hs := by with_unfolding_all rfl))
    have cl2 : h2.IsCell (h.objs.size + 1) none := let ⟨o, e, d⟩ := cell1; ⟨o, k2 _ _ e, d⟩
    have lS : h.objs.size + 1 < h1.objs.size := let ⟨o, e, _⟩ := cell1; Heap.lt_size e
    refine wpAny_storeName_cell (s := ⟨_, _, _, _, _⟩) (by kernel_rfl) (by kernel_rfl) (by kernel_rfl) cl2 fun h3 cl3 s3 => ?_
    have hS3 := (s3.2 h1.objs.size (Nat.ne_of_gt lS)).trans hS
    have k3 : Sub h h3 := fun b o e => (s3.2 b (Nat.ne_of_lt (Nat.lt_succ_of_lt (Heap.lt_size e)))).trans (k2 b o (k1 b o e))
    have F3 : Fl g h.objs.size h3 [(Str.ofString "text", .str ⟨t.toArray⟩ tt)] := let ⟨m, F, l⟩ := F1; ⟨m, (F.keeps k2).change s3 (Nat.succ_ne_self _) (newg (Nat.le_succ _)), l⟩
    have lD1 : h1.objs.size < h3.objs.size := Heap.lt_size hS3
    refine wpAny_execs_cons (wpAny_Assign_Name (Call_ (nmG (s := ⟨_, _, _, _, _⟩) hK S F3 Cg (by (with_reducible (repeat (first | exact At.hd | apply At.tl)))) (by (with_reducible (repeat (first | exact At.hd | apply At.tl)))) (callWith_of (P := fun h => K.In h) rfl (keeps_K Y.kc) (Calls.evalArgs_plain (Calls.spliced_cons ?_)))) (he := by with_unfolding_all rfl)) (hs := by with_unfolding_all rfl))
    refine wpAny_Constant_none (k := 0) (pos := ⟨0, 0, 0, 0⟩) (Calls.spliced_nil ⟨Cg.X.keeps (let ⟨_, F, _⟩ := F3; F.keep), wpAny_call (inst_run (n := m) (B := g) Y hK R1 Cg (let ⟨_, F, _⟩ := F3; F.keep) fun h4 tk4 q1 q2 q3 q4 i1 i2 i3 i4 i5 i6 n4 P4 k4 hx4 hd4 hP4 nP4 lt4 => ?_)⟩)
    have F4 : Fl g h.objs.size h4 [(Str.ofString "text", .str ⟨t.toArray⟩ tt)] := let ⟨m, F, l⟩ := F3; ⟨m, F.keeps k4, l⟩
    obtain ⟨m4, G4, l4⟩ := F4
    refine wpAny_storeName_local (s := ⟨_, _, _, _, _⟩) (by kernel_rfl) G4.ns (fun h5 hn5 s5 => ?_) (by kernel_rfl)
    have lL : ∀ {b : Addr}, h.objs.size < b → b ≠ h.objs.size := fun h => Nat.ne_of_gt h
    have F5 : Fl g h.objs.size h5 [(Str.ofString "text", .str ⟨t.toArray⟩ tt), (Str.ofString "source", .ref (h3.objs.size + 1))] := ⟨_, G4.set hn5 s5, l4.put (by (repeat (first | (with_reducible exact PutD.new) | ((with_reducible apply PutD.here); (repeat (first | exact Apart.nil | refine Apart.cons (by decide +kernel) ?_))) | ((with_reducible apply PutD.next); (decide +kernel)))))⟩
    have liveg : ∀ {b : Addr} {h' : Heap} {l' : List (Str × Value)} {o : Obj}, Fl g h.objs.size h' l' → g.get? b = some o → h'.get? b = some o := fun F e => let ⟨_, F, _⟩ := F; F.keep _ _ e
    have x5 := (s5.2 _ (Nat.ne_of_gt (Nat.lt_trans (Nat.lt_trans (Nat.lt_succ_self _) lS) (Nat.lt_succ_of_lt lD1)))).trans hx4
    have d5 := (s5.2 _ (Nat.ne_of_gt (Nat.lt_trans (Nat.lt_trans (Nat.lt_succ_self _) lS) lD1))).trans hd4
    have lP4 : h.objs.size < P4 := Nat.lt_trans (Nat.lt_trans (Nat.lt_trans (Nat.lt_succ_self _) lS) (Nat.lt_succ_of_lt lD1)) lt4
    have P5 := (s5.2 _ (Nat.ne_of_gt lP4)).trans hP4
    have S5 := (s5.2 _ (Nat.ne_of_gt (Nat.lt_trans (Nat.lt_succ_self _) lS))).trans (k4 _ _ hS3)
    have C5 : h5.IsCell (h.objs.size + 1) (some (.ref h1.objs.size)) := let ⟨o, e, d⟩ := cl3; ⟨o, (s5.2 _ (Nat.succ_ne_self _)).trans (k4 _ _ e), d⟩
    obtain ⟨m5, G5, l5⟩ := id F5
    have e122 : g.get? 122 = none := ng _ m122
    have nL122 : (122 : Nat) ≠ h.objs.size := Nat.ne_of_lt (Heap.lt_size hT)
    have T5 : h5.get? 122 = some (tabObj ps) := (s5.2 _ nL122).trans (k4 _ _ (k3 _ _ hT))
    obtain ⟨pp, loose, mean, mg, mb, T⟩ := id Cg.T
    have hgP : mainGlobals ≠ 122 := by decide
    have hb : h5.BuiltinsAt mg 122 := by
      obtain ⟨bm, ob, b1, b2, b3, b4, b5, b6⟩ := T.bmain
      refine ⟨bm, ob, b1, b2, fun q => ?_, fun q => ?_, G5.keep _ _ b3, b4, b5, b6⟩
      · obtain ⟨o, es, ep, e, hd, _⟩ := T.g
        rw [q, e] at b3; cases b3; rw [hd] at b6; cases b6
      · rw [q, e122] at b3; cases b3
    refine wpAny_execs_cons (plainObj_wpAny_Assign_Attribute (kla_eval (by kernel_rfl) (kla_makeFunction (s := ⟨_, _, _, _, _⟩) (mg := mg) (c := 126) (P := 122) (ps := ps) (clos := [(Str.ofString "signs", h.objs.size + 1)]) (by kernel_rfl) rfl (T.g.keeps G5.keep) rfl ((codeHd_of_K Cg.X hd).keeps G5.keep) T5 tr na hgP hb fun c' ctv h6 tk6 ex6 ge6 lt6 cr6 T6 => ?_)) (hs := by with_unfolding_all rfl))
    have lt122 : 122 < h.objs.size := Heap.lt_size hT
    have big : ∀ {b : Addr}, h.objs.size ≤ b → b ≠ 122 := fun hb => Nat.ne_of_gt (Nat.lt_of_lt_of_le lt122 hb)
    have e56 : ∀ {b : Addr} {o ob : Obj}, b ≠ 122 → h5.get? b = some o → (h6.push ob).get? b = some o := fun n e => Heap.get?_push_of_some _ (ex6 _ _ n e)
    have g122 : ∀ {b : Addr} {o : Obj}, g.get? b = some o → b ≠ 122 := fun e q => by rw [q, e122] at e; cases e
    have lL5 : h.objs.size < h5.objs.size := G5.ns.lt
    have lC : h.objs.size < h.objs.size + 1 := Nat.lt_succ_self _
    have lLD1 : h.objs.size < h3.objs.size := Nat.lt_trans (Nat.lt_trans lC lS) lD1
    have F7 : ∀ ob, Fl g h.objs.size (h6.push ob) [(Str.ofString "text", .str ⟨t.toArray⟩ tt), (Str.ofString "source", .ref (h3.objs.size + 1))] := fun ob => ⟨m5, ⟨(G5.ns.extBut ex6 (Ne.symm nL122)).push _, fun b o e => e56 (g122 e) (G5.keep b o e), G5.above⟩, l5⟩
    refine nmL (s := ⟨_, _, _, _, _⟩) S (F7 _) (by (with_reducible (repeat (first | exact At.hd | apply At.tl)))) (by (with_reducible (repeat (first | exact At.hd | apply At.tl)))) (self_set (es := lexE q1 q2 q3 q4 i1 i2 i3 i4 i5 (.int 1 i6) .none P4) (n := n4) Y (F7 _) Cg.X (e56 (big (Nat.le_of_lt (Nat.lt_succ_of_lt lLD1))) x5) (e56 (big (Nat.le_of_lt lLD1)) d5) (Nat.ne_of_gt lLD1) (newg (Nat.le_of_lt lLD1)) (Nat.succ_ne_self _) (by simp) (by kernel_rfl) (fun _ _ => by show 5 ≤ 1000; decide) fun h8 q8 k8 tk8 n8 s8 F8 hx8 hd8 => ?_)
    have lF8 : h6.objs.size < h8.objs.size := Heap.lt_size ((s8.2 _ (Nat.ne_of_gt (Nat.lt_of_lt_of_le (Heap.lt_size d5) (Nat.le_trans ge6 (Nat.le_of_lt lt6))))).trans (Heap.get?_push_size _ rfl))
    refine wpAny_execs_cons (wpAny_Return_some (Call_ (nmG (s := ⟨_, _, _, _, _⟩) hK S F8 Cg (by (with_reducible (repeat (first | exact At.hd | apply At.tl)))) (by (with_reducible (repeat (first | exact At.hd | apply At.tl)))) (callWith_of (P := fun h => K.In h) rfl (keeps_K Y.kc) (Calls.evalArgs_plain (Calls.spliced_cons ?_)))) (he := by with_unfolding_all rfl)))
    refine nmL (s := ⟨_, _, _, _, _⟩) S F8 (by (with_reducible (repeat (first | exact At.hd | apply At.tl)))) (by (with_reducible (repeat (first | exact At.hd | apply At.tl)))) (Calls.spliced_nil ⟨Cg.X.keeps (let ⟨_, F, _⟩ := F8; F.keep), wpAny_call (inst_run (n := m) (B := g) Y hK R1 Cg (let ⟨_, F, _⟩ := F8; F.keep) fun h9 tk9 r1 r2 r3 r4 j1 j2 j3 j4 j5 j6 n9 P9 k9 hx9 hd9 hP9 nP9 lt9 => ?_)⟩)
    -- what stands at the end
    have kb : ∀ {b : Addr} {o : Obj}, b ≠ 122 → b ≠ h3.objs.size → h5.get? b = some o → h9.get? b = some o := fun n1 n2 e => k9 _ _ ((s8.2 _ n2).trans (e56 n1 e))
    have ne1 : h3.objs.size ≠ 122 := big (Nat.le_of_lt lLD1)
    have T9 : ∃ ps, h9.get? 122 = some (tabObj ps) := ⟨_, k9 _ _ ((s8.2 _ (Ne.symm ne1)).trans (Heap.get?_push_of_some _ T6))⟩
    have old : ∀ b o, b ≠ 122 → h.get? b = some o → h9.get? b = some o := fun b o n e => by
      have lb := Heap.lt_size e
      exact kb n (Nat.ne_of_lt (Nat.lt_trans lb lLD1)) ((s5.2 b (Nat.ne_of_lt lb)).trans (k4 b o (k3 b o e)))
    have kp : Keep zs.flatten h h9 := fun b o n e => old b o (fun q => n (q ▸ m122)) e
    have lP5 : P4 < c' := Nat.lt_of_lt_of_le (Heap.lt_size P5) ge6
    have lF9 : h6.objs.size < h8.objs.size := lF8
    have lc : h.objs.size < c' := Nat.lt_of_lt_of_le lL5 ge6
    have nLs : ∀ {b : Addr}, h.objs.size < b → h.get? b = none := fun hb => new (Nat.le_of_lt hb)
    have lF : h.objs.size < h6.objs.size := Nat.lt_trans lc lt6
    have lD2 : h.objs.size < h8.objs.size := Nat.lt_trans lF lF9
    have lSs : h.objs.size < h1.objs.size := Nat.lt_trans lC lS
    let a : LexA := ⟨h8.objs.size + 1, P9, h8.objs.size, h1.objs.size, h3.objs.size + 1, h3.objs.size, h.objs.size + 1, h6.objs.size, c'⟩
    have hn : ∀ b ∈ a.all, h.get? b = none := by
      intro b m
      simp only [LexA.all, a, List.mem_cons, List.not_mem_nil, or_false] at m
      rcases m with rfl | rfl | rfl | rfl | rfl | rfl | rfl | rfl | rfl <;> apply nLs
      · exact Nat.lt_succ_of_lt lD2
      · exact Nat.lt_trans (Nat.lt_succ_of_lt lD2) lt9
      · exact lD2
      · exact lSs
      · exact Nat.lt_succ_of_lt lLD1
      · exact lLD1
      · exact lC
      · exact lF
      · exact lc
    have nd : a.all.Nodup := nodup9 lS lD1 (Nat.lt_succ_self _) lt4 lP5 lt6 lF9 (Nat.lt_succ_self _) lt9
    have sv : StrsAre acc'.toList (t.map fun k => (⟨#[k]⟩ : Str)) := strs_of (by rw [Array.length_toList, acc.1]; exact List.size_toArray ..) fun j v e => by
      obtain ⟨c, u, e1, e2⟩ := acc.2 j v (by rw [← Array.getElem?_toList]; exact e)
      exact ⟨c, u, by simpa using e1, e2⟩
    have LH : LexH h9 a t [] (1 + (t.count 10 : Nat)) := by
      refine ⟨hx9, ⟨_, n9, hd9, ⟨r1, r2, r3, r4, j1, j2, j3, j4, j5, j6, ?_⟩⟩, ⟨[], 0, hP9, .nil, Nat.zero_le _⟩, k9 _ _ hx8, ⟨_, n8, k9 _ _ hd8, by kernel_rfl⟩,
        ⟨_, _, _, _, _, _, _, _, by conv => lhs; whnf, k9 _ _ ((s8.2 _ (Nat.ne_of_gt (Nat.lt_trans (Nat.lt_trans (Nat.lt_trans (Nat.lt_succ_self _) lt4) lP5) lt6))).trans (Heap.get?_push_size _ rfl)), ?_⟩, ?_, ⟨acc'.toList, cnt, ?_, sv, ht⟩, ?_, Nat.ne_of_lt (Nat.lt_trans (Nat.lt_trans (Nat.lt_trans (Nat.lt_trans lD1 (Nat.lt_succ_self _)) lt4) (Nat.lt_trans lP5 lt6)) (Nat.lt_trans lF9 (Nat.lt_trans (Nat.lt_succ_self _) lt9))), ?_⟩
      · rw [show (1 : Int) + (t.count 10 : Nat) - (t.count 10 : Nat) = 1 by (first | lia | omega)]
      · obtain ⟨c0, o, vs, tq, e, go, rr⟩ := cr6
        cases e
        exact ⟨_, o, vs, tq, rfl, k9 _ _ ((s8.2 _ (Nat.ne_of_gt (Nat.lt_trans (Nat.lt_trans (Nat.lt_succ_self _) lt4) lP5))).trans (Heap.get?_push_of_some _ go)), rr⟩
      · obtain ⟨o, e, d⟩ := C5
        exact ⟨o, kb (big (Nat.le_of_lt lC)) (Nat.ne_of_lt (Nat.lt_trans lS lD1)) e, d⟩
      · refine (kb (big (Nat.le_of_lt lSs)) (Nat.ne_of_lt lD1) S5).trans ?_
        rw [Array.toArray_toList]
      · obtain ⟨c0, o, vs, tq, e, go, rr⟩ := cr6
        cases e
        exact ⟨o, k9 _ _ ((s8.2 _ (Nat.ne_of_gt (Nat.lt_trans (Nat.lt_trans (Nat.lt_succ_self _) lt4) lP5))).trans (Heap.get?_push_of_some _ go))⟩
      · (first | lia | omega)
    have hi := (List.getElem?_eq_some_iff.mp hN).1
    have x0 := Ex0.grow (W := W) hn kp
    refine ⟨h9, ge, tk9, zs ++ [a.all], a.all ++ W, .ob (N.set 0 (.lex [] [] (-1))).length, N.set 0 (.lex [] [] (-1)) ++ [.lex t [] (1 + (t.count 10 : Nat))], rfl, hB, x0, Lg.grow (od := .lex t [] (1 + (t.count 10 : Nat))) lg (List.length_set ..) hn nd kp (fun j od' z' e1 e2 => ?_) (show lexX.at_ h9 a.all t [] (1 + (t.count 10 : Nat)) from .inl ⟨a, rfl, LH⟩), .ob (r := [P9, h8.objs.size, h1.objs.size, h3.objs.size + 1, h3.objs.size, h.objs.size + 1, h6.objs.size, c']) (by rw [List.length_set, lg.len]; simp [a, LexA.all]), hk _ (pn.set trivial) (List.length_set ..) (List.getElem?_set_self hi)⟩
    by_cases hj : 0 = j
    · subst hj
      rw [List.getElem?_set_self hi] at e1
      rw [hz0] at e2
      cases e1; cases e2
      exact (show lexX.at_ h9 [122] [] [] (-1) from .inr ⟨rfl, rfl, rfl, .inr ⟨rfl, T9⟩⟩)
    · rw [List.getElem?_set_ne hj] at e1
      exact (lg.obs j od' z' e1 e2).per x0 (fun b m => .inl (lg.sub b m)) fun b m o e => old b o (fun q => flat_apart lg.nd hj hz0 e2 (.head _) (q ▸ m)) e
end
end

noncomputable section
noncomputable def fo (st : Stmt) (q m : Str) (t c : Nat) : Obj := { cls := .type "function", data := .func { name := nameOf st, qualname := q, params := paramsOf st, body := .stmts (bodyOf st), scope := scopeOf st, globals := 3, closure := [], defaults := .none, kwdefaults := .none, pyModule := .str m t, code := .ref c } }
noncomputable def K (P : Params) : Frag := [
  (3,  { cls := Value.type "dict", data := Data.dict #[{ hash := PyData.keyHash P (Str.mk #[95, 95, 110, 97, 109, 101, 95, 95]), key := Value.str (Str.mk #[95, 95, 110, 97, 109, 101, 95, 95]) 165, val := Value.str (Str.mk #[108, 97, 119, 95, 117, 113, 48, 48, 49, 52, 95, 48, 49]) 524 }, { hash := PyData.keyHash P (Str.mk #[95, 95, 100, 111, 99, 95, 95]), key := Value.str (Str.mk #[95, 95, 100, 111, 99, 95, 95]) 166, val := Value.none }, { hash := PyData.keyHash P (Str.mk #[95, 95, 112, 97, 99, 107, 97, 103, 101, 95, 95]), key := Value.str (Str.mk #[95, 95, 112, 97, 99, 107, 97, 103, 101, 95, 95]) 167, val := Value.none }, { hash := PyData.keyHash P (Str.mk #[95, 95, 108, 111, 97, 100, 101, 114, 95, 95]), key := Value.str (Str.mk #[95, 95, 108, 111, 97, 100, 101, 114, 95, 95]) 168, val := Value.builtin "__main__.__loader__#opaque" }, { hash := PyData.keyHash P (Str.mk #[95, 95, 115, 112, 101, 99, 95, 95]), key := Value.str (Str.mk #[95, 95, 115, 112, 101, 99, 95, 95]) 169, val := Value.none }, { hash := PyData.keyHash P (Str.mk #[95, 95, 97, 110, 110, 111, 116, 97, 116, 105, 111, 110, 115, 95, 95]), key := Value.str (Str.mk #[95, 95, 97, 110, 110, 111, 116, 97, 116, 105, 111, 110, 115, 95, 95]) 170, val := Value.ref 6 }, { hash := PyData.keyHash P (Str.mk #[95, 95, 98, 117, 105, 108, 116, 105, 110, 115, 95, 95]), key := Value.str (Str.mk #[95, 95, 98, 117, 105, 108, 116, 105, 110, 115, 95, 95]) 171, val := Value.ref 4 }, { hash := PyData.keyHash P (Str.mk #[95, 95, 102, 105, 108, 101, 95, 95]), key := Value.str (Str.mk #[95, 95, 102, 105, 108, 101, 95, 95]) 173, val := Value.str (Str.mk #[47, 99, 108, 97, 105, 109, 47, 99, 117, 116, 46, 112, 121]) 172 }, { hash := PyData.keyHash P (Str.mk #[95, 95, 99, 97, 99, 104, 101, 100, 95, 95]), key := Value.str (Str.mk #[95, 95, 99, 97, 99, 104, 101, 100, 95, 95]) 174, val := Value.none }, { hash := PyData.keyHash P (Str.mk #[114, 103, 98, 95, 116, 111, 95, 104, 108, 115]), key := Value.str (Str.mk #[114, 103, 98, 95, 116, 111, 95, 104, 108, 115]) 207, val := Value.ref 21 }, { hash := PyData.keyHash P (Str.mk #[114, 103, 98, 95, 116, 111, 95, 104, 115, 118]), key := Value.str (Str.mk #[114, 103, 98, 95, 116, 111, 95, 104, 115, 118]) 225, val := Value.ref 28 }, { hash := PyData.keyHash P (Str.mk #[95, 105, 116, 101, 114, 95, 101, 115, 99, 97, 112, 101, 100, 95, 99, 104, 97, 114, 115]), key := Value.str (Str.mk #[95, 105, 116, 101, 114, 95, 101, 115, 99, 97, 112, 101, 100, 95, 99, 104, 97, 114, 115]) 237, val := Value.ref 35 }, { hash := PyData.keyHash P (Str.mk #[95, 115, 116, 114, 105, 112, 95, 113, 117, 111, 116, 101, 100, 95, 114, 101, 97, 108, 110, 97, 109, 101, 115]), key := Value.str (Str.mk #[95, 115, 116, 114, 105, 112, 95, 113, 117, 111, 116, 101, 100, 95, 114, 101, 97, 108, 110, 97, 109, 101, 115]) 249, val := Value.ref 42 }, { hash := PyData.keyHash P (Str.mk #[95, 99, 104, 101, 99, 107, 95, 112, 97, 114, 101, 110, 116, 104, 101, 115, 105, 115]), key := Value.str (Str.mk #[95, 99, 104, 101, 99, 107, 95, 112, 97, 114, 101, 110, 116, 104, 101, 115, 105, 115]) 259, val := Value.ref 49 }, { hash := PyData.keyHash P (Str.mk #[95, 110, 101, 116, 114, 99, 108, 101, 120]), key := Value.str (Str.mk #[95, 110, 101, 116, 114, 99, 108, 101, 120]) 319, val := Value.ref 87 }, { hash := PyData.keyHash P (Str.mk #[69, 78, 68, 77, 65, 82, 75, 69, 82]), key := Value.str (Str.mk #[69, 78, 68, 77, 65, 82, 75, 69, 82]) 323, val := Value.int 0 322 }, { hash := PyData.keyHash P (Str.mk #[76, 80, 65, 82]), key := Value.str (Str.mk #[76, 80, 65, 82]) 325, val := Value.int 7 324 }, { hash := PyData.keyHash P (Str.mk #[82, 80, 65, 82]), key := Value.str (Str.mk #[82, 80, 65, 82]) 327, val := Value.int 8 326 }, { hash := PyData.keyHash P (Str.mk #[76, 83, 81, 66]), key := Value.str (Str.mk #[76, 83, 81, 66]) 329, val := Value.int 9 328 }, { hash := PyData.keyHash P (Str.mk #[82, 83, 81, 66]), key := Value.str (Str.mk #[82, 83, 81, 66]) 331, val := Value.int 10 330 }, { hash := PyData.keyHash P (Str.mk #[67, 79, 76, 79, 78]), key := Value.str (Str.mk #[67, 79, 76, 79, 78]) 333, val := Value.int 11 332 }, { hash := PyData.keyHash P (Str.mk #[67, 79, 77, 77, 65]), key := Value.str (Str.mk #[67, 79, 77, 77, 65]) 335, val := Value.int 12 334 }, { hash := PyData.keyHash P (Str.mk #[83, 69, 77, 73]), key := Value.str (Str.mk #[83, 69, 77, 73]) 337, val := Value.int 13 336 }, { hash := PyData.keyHash P (Str.mk #[80, 76, 85, 83]), key := Value.str (Str.mk #[80, 76, 85, 83]) 339, val := Value.int 14 338 }, { hash := PyData.keyHash P (Str.mk #[77, 73, 78, 85, 83]), key := Value.str (Str.mk #[77, 73, 78, 85, 83]) 341, val := Value.int 15 340 }, { hash := PyData.keyHash P (Str.mk #[83, 84, 65, 82]), key := Value.str (Str.mk #[83, 84, 65, 82]) 343, val := Value.int 16 342 }, { hash := PyData.keyHash P (Str.mk #[83, 76, 65, 83, 72]), key := Value.str (Str.mk #[83, 76, 65, 83, 72]) 345, val := Value.int 17 344 }, { hash := PyData.keyHash P (Str.mk #[86, 66, 65, 82]), key := Value.str (Str.mk #[86, 66, 65, 82]) 347, val := Value.int 18 346 }, { hash := PyData.keyHash P (Str.mk #[65, 77, 80, 69, 82]), key := Value.str (Str.mk #[65, 77, 80, 69, 82]) 349, val := Value.int 19 348 }, { hash := PyData.keyHash P (Str.mk #[76, 69, 83, 83]), key := Value.str (Str.mk #[76, 69, 83, 83]) 351, val := Value.int 20 350 }, { hash := PyData.keyHash P (Str.mk #[71, 82, 69, 65, 84, 69, 82]), key := Value.str (Str.mk #[71, 82, 69, 65, 84, 69, 82]) 353, val := Value.int 21 352 }, { hash := PyData.keyHash P (Str.mk #[69, 81, 85, 65, 76]), key := Value.str (Str.mk #[69, 81, 85, 65, 76]) 355, val := Value.int 22 354 }, { hash := PyData.keyHash P (Str.mk #[68, 79, 84]), key := Value.str (Str.mk #[68, 79, 84]) 357, val := Value.int 23 356 }, { hash := PyData.keyHash P (Str.mk #[80, 69, 82, 67, 69, 78, 84]), key := Value.str (Str.mk #[80, 69, 82, 67, 69, 78, 84]) 359, val := Value.int 24 358 }, { hash := PyData.keyHash P (Str.mk #[76, 66, 82, 65, 67, 69]), key := Value.str (Str.mk #[76, 66, 82, 65, 67, 69]) 361, val := Value.int 25 360 }, { hash := PyData.keyHash P (Str.mk #[82, 66, 82, 65, 67, 69]), key := Value.str (Str.mk #[82, 66, 82, 65, 67, 69]) 363, val := Value.int 26 362 }, { hash := PyData.keyHash P (Str.mk #[69, 81, 69, 81, 85, 65, 76]), key := Value.str (Str.mk #[69, 81, 69, 81, 85, 65, 76]) 365, val := Value.int 27 364 }, { hash := PyData.keyHash P (Str.mk #[78, 79, 84, 69, 81, 85, 65, 76]), key := Value.str (Str.mk #[78, 79, 84, 69, 81, 85, 65, 76]) 367, val := Value.int 28 366 }, { hash := PyData.keyHash P (Str.mk #[76, 69, 83, 83, 69, 81, 85, 65, 76]), key := Value.str (Str.mk #[76, 69, 83, 83, 69, 81, 85, 65, 76]) 369, val := Value.int 29 368 }, { hash := PyData.keyHash P (Str.mk #[71, 82, 69, 65, 84, 69, 82, 69, 81, 85, 65, 76]), key := Value.str (Str.mk #[71, 82, 69, 65, 84, 69, 82, 69, 81, 85, 65, 76]) 371, val := Value.int 30 370 }, { hash := PyData.keyHash P (Str.mk #[84, 73, 76, 68, 69]), key := Value.str (Str.mk #[84, 73, 76, 68, 69]) 373, val := Value.int 31 372 }, { hash := PyData.keyHash P (Str.mk #[67, 73, 82, 67, 85, 77, 70, 76, 69, 88]), key := Value.str (Str.mk #[67, 73, 82, 67, 85, 77, 70, 76, 69, 88]) 375, val := Value.int 32 374 }, { hash := PyData.keyHash P (Str.mk #[76, 69, 70, 84, 83, 72, 73, 70, 84]), key := Value.str (Str.mk #[76, 69, 70, 84, 83, 72, 73, 70, 84]) 377, val := Value.int 33 376 }, { hash := PyData.keyHash P (Str.mk #[82, 73, 71, 72, 84, 83, 72, 73, 70, 84]), key := Value.str (Str.mk #[82, 73, 71, 72, 84, 83, 72, 73, 70, 84]) 379, val := Value.int 34 378 }, { hash := PyData.keyHash P (Str.mk #[68, 79, 85, 66, 76, 69, 83, 84, 65, 82]), key := Value.str (Str.mk #[68, 79, 85, 66, 76, 69, 83, 84, 65, 82]) 381, val := Value.int 35 380 }, { hash := PyData.keyHash P (Str.mk #[80, 76, 85, 83, 69, 81, 85, 65, 76]), key := Value.str (Str.mk #[80, 76, 85, 83, 69, 81, 85, 65, 76]) 383, val := Value.int 36 382 }, { hash := PyData.keyHash P (Str.mk #[77, 73, 78, 69, 81, 85, 65, 76]), key := Value.str (Str.mk #[77, 73, 78, 69, 81, 85, 65, 76]) 385, val := Value.int 37 384 }, { hash := PyData.keyHash P (Str.mk #[83, 84, 65, 82, 69, 81, 85, 65, 76]), key := Value.str (Str.mk #[83, 84, 65, 82, 69, 81, 85, 65, 76]) 387, val := Value.int 38 386 }, { hash := PyData.keyHash P (Str.mk #[83, 76, 65, 83, 72, 69, 81, 85, 65, 76]), key := Value.str (Str.mk #[83, 76, 65, 83, 72, 69, 81, 85, 65, 76]) 389, val := Value.int 39 388 }, { hash := PyData.keyHash P (Str.mk #[80, 69, 82, 67, 69, 78, 84, 69, 81, 85, 65, 76]), key := Value.str (Str.mk #[80, 69, 82, 67, 69, 78, 84, 69, 81, 85, 65, 76]) 391, val := Value.int 40 390 }, { hash := PyData.keyHash P (Str.mk #[65, 77, 80, 69, 82, 69, 81, 85, 65, 76]), key := Value.str (Str.mk #[65, 77, 80, 69, 82, 69, 81, 85, 65, 76]) 393, val := Value.int 41 392 }, { hash := PyData.keyHash P (Str.mk #[86, 66, 65, 82, 69, 81, 85, 65, 76]), key := Value.str (Str.mk #[86, 66, 65, 82, 69, 81, 85, 65, 76]) 395, val := Value.int 42 394 }, { hash := PyData.keyHash P (Str.mk #[67, 73, 82, 67, 85, 77, 70, 76, 69, 88, 69, 81, 85, 65, 76]), key := Value.str (Str.mk #[67, 73, 82, 67, 85, 77, 70, 76, 69, 88, 69, 81, 85, 65, 76]) 397, val := Value.int 43 396 }, { hash := PyData.keyHash P (Str.mk #[76, 69, 70, 84, 83, 72, 73, 70, 84, 69, 81, 85, 65, 76]), key := Value.str (Str.mk #[76, 69, 70, 84, 83, 72, 73, 70, 84, 69, 81, 85, 65, 76]) 399, val := Value.int 44 398 }, { hash := PyData.keyHash P (Str.mk #[82, 73, 71, 72, 84, 83, 72, 73, 70, 84, 69, 81, 85, 65, 76]), key := Value.str (Str.mk #[82, 73, 71, 72, 84, 83, 72, 73, 70, 84, 69, 81, 85, 65, 76]) 401, val := Value.int 45 400 }, { hash := PyData.keyHash P (Str.mk #[68, 79, 85, 66, 76, 69, 83, 84, 65, 82, 69, 81, 85, 65, 76]), key := Value.str (Str.mk #[68, 79, 85, 66, 76, 69, 83, 84, 65, 82, 69, 81, 85, 65, 76]) 403, val := Value.int 46 402 }, { hash := PyData.keyHash P (Str.mk #[68, 79, 85, 66, 76, 69, 83, 76, 65, 83, 72]), key := Value.str (Str.mk #[68, 79, 85, 66, 76, 69, 83, 76, 65, 83, 72]) 405, val := Value.int 47 404 }, { hash := PyData.keyHash P (Str.mk #[68, 79, 85, 66, 76, 69, 83, 76, 65, 83, 72, 69, 81, 85, 65, 76]), key := Value.str (Str.mk #[68, 79, 85, 66, 76, 69, 83, 76, 65, 83, 72, 69, 81, 85, 65, 76]) 407, val := Value.int 48 406 }, { hash := PyData.keyHash P (Str.mk #[65, 84]), key := Value.str (Str.mk #[65, 84]) 409, val := Value.int 49 408 }, { hash := PyData.keyHash P (Str.mk #[65, 84, 69, 81, 85, 65, 76]), key := Value.str (Str.mk #[65, 84, 69, 81, 85, 65, 76]) 411, val := Value.int 50 410 }, { hash := PyData.keyHash P (Str.mk #[82, 65, 82, 82, 79, 87]), key := Value.str (Str.mk #[82, 65, 82, 82, 79, 87]) 413, val := Value.int 51 412 }, { hash := PyData.keyHash P (Str.mk #[69, 76, 76, 73, 80, 83, 73, 83]), key := Value.str (Str.mk #[69, 76, 76, 73, 80, 83, 73, 83]) 415, val := Value.int 52 414 }, { hash := PyData.keyHash P (Str.mk #[67, 79, 76, 79, 78, 69, 81, 85, 65, 76]), key := Value.str (Str.mk #[67, 79, 76, 79, 78, 69, 81, 85, 65, 76]) 417, val := Value.int 53 416 }, { hash := PyData.keyHash P (Str.mk #[69, 88, 67, 76, 65, 77, 65, 84, 73, 79, 78]), key := Value.str (Str.mk #[69, 88, 67, 76, 65, 77, 65, 84, 73, 79, 78]) 419, val := Value.int 54 418 }, { hash := PyData.keyHash P (Str.mk #[69, 88, 65, 67, 84, 95, 84, 79, 75, 69, 78, 95, 84, 89, 80, 69, 83]), key := Value.str (Str.mk #[69, 88, 65, 67, 84, 95, 84, 79, 75, 69, 78, 95, 84, 89, 80, 69, 83]) 516, val := Value.ref 92 }, { hash := PyData.keyHash P (Str.mk #[73, 83, 69, 79, 70]), key := Value.str (Str.mk #[73, 83, 69, 79, 70]) 523, val := Value.ref 101 }, { hash := PyData.keyHash P (Str.mk #[95, 108, 97, 119, 95, 116, 114, 101, 101]), key := Value.str (Str.mk #[95, 108, 97, 119, 95, 116, 114, 101, 101]) 538, val := Value.ref 108 }, { hash := PyData.keyHash P (Str.mk #[95, 108, 97, 119, 95, 119, 111, 114, 100, 115]), key := Value.str (Str.mk #[95, 108, 97, 119, 95, 119, 111, 114, 100, 115]) 549, val := Value.ref 115 }, { hash := PyData.keyHash P (Str.mk #[95, 108, 97, 119, 95, 115, 112, 101, 108, 108, 101, 100]), key := Value.str (Str.mk #[95, 108, 97, 119, 95, 115, 112, 101, 108, 108, 101, 100]) 555, val := Value.ref 120 }, { hash := PyData.keyHash P (Str.mk #[95, 108, 97, 119, 95, 108, 101, 120, 101, 114]), key := Value.str (Str.mk #[95, 108, 97, 119, 95, 108, 101, 120, 101, 114]) 564, val := Value.ref 127 }, { hash := PyData.keyHash P (Str.mk #[95, 108, 97, 119, 95, 110, 117, 109, 98, 101, 114]), key := Value.str (Str.mk #[95, 108, 97, 119, 95, 110, 117, 109, 98, 101, 114]) 570, val := Value.ref 132 }, { hash := PyData.keyHash P (Str.mk #[95, 108, 97, 119, 95, 112, 108, 97, 121]), key := Value.str (Str.mk #[95, 108, 97, 119, 95, 112, 108, 97, 121]) 585, val := Value.ref 139 }, { hash := PyData.keyHash P (Str.mk #[95, 108, 97, 119, 95, 119, 111, 114, 116, 104]), key := Value.str (Str.mk #[95, 108, 97, 119, 95, 119, 111, 114, 116, 104]) 591, val := Value.ref 144 }, { hash := PyData.keyHash P (Str.mk #[95, 108, 97, 119, 95, 114, 111, 97, 100, 115]), key := Value.str (Str.mk #[95, 108, 97, 119, 95, 114, 111, 97, 100, 115]) 597, val := Value.ref 149 }, { hash := PyData.keyHash P (Str.mk #[108, 97, 119]), key := Value.str (Str.mk #[108, 97, 119]) 603, val := Value.ref 154 }] 75 }),
  (20, { cls := Value.type "code", data := Data.fields #[Value.str (Str.mk #[114, 103, 98, 95, 116, 111, 95, 104, 108, 115]) 189, Value.str (Str.mk #[114, 103, 98, 95, 116, 111, 95, 104, 108, 115]) 190, Value.str (Str.mk #[47, 99, 108, 97, 105, 109, 47, 99, 117, 116, 46, 112, 121]) 191, Value.int 2 0, Value.int 3 0, Value.int 0 0, Value.int 0 0, Value.int 3 0, Value.ref 15, Value.bool true, Value.int 181 0, Value.ref 16, Value.none, Value.ref 17, Value.ref 18, Value.ref 19, Value.int 205 0, Value.int 2 0, Value.str (Str.mk #[47, 99, 108, 97, 105, 109, 47, 99, 117, 116, 46, 112, 121]) 206] }),
  (21, fo (stAt 1) (Str.mk #[114, 103, 98, 95, 116, 111, 95, 104, 108, 115]) (Str.mk #[99, 112, 121, 51, 49, 51, 46, 99, 111, 108, 111, 114, 115, 121, 115]) 187 20),
  (27, { cls := Value.type "code", data := Data.fields #[Value.str (Str.mk #[114, 103, 98, 95, 116, 111, 95, 104, 115, 118]) 208, Value.str (Str.mk #[114, 103, 98, 95, 116, 111, 95, 104, 115, 118]) 209, Value.str (Str.mk #[47, 99, 108, 97, 105, 109, 47, 99, 117, 116, 46, 112, 121]) 210, Value.int 25 0, Value.int 3 0, Value.int 0 0, Value.int 0 0, Value.int 3 0, Value.ref 22, Value.bool true, Value.int 181 0, Value.ref 23, Value.none, Value.ref 24, Value.ref 25, Value.ref 26, Value.int 223 0, Value.int 25 0, Value.str (Str.mk #[47, 99, 108, 97, 105, 109, 47, 99, 117, 116, 46, 112, 121]) 224] }),
  (28, fo (stAt 2) (Str.mk #[114, 103, 98, 95, 116, 111, 95, 104, 115, 118]) (Str.mk #[99, 112, 121, 51, 49, 51, 46, 99, 111, 108, 111, 114, 115, 121, 115]) 187 27),
  (34, { cls := Value.type "code", data := Data.fields #[Value.str (Str.mk #[95, 105, 116, 101, 114, 95, 101, 115, 99, 97, 112, 101, 100, 95, 99, 104, 97, 114, 115]) 228, Value.str (Str.mk #[95, 105, 116, 101, 114, 95, 101, 115, 99, 97, 112, 101, 100, 95, 99, 104, 97, 114, 115]) 229, Value.str (Str.mk #[47, 99, 108, 97, 105, 109, 47, 99, 117, 116, 46, 112, 121]) 230, Value.int 45 0, Value.int 1 0, Value.int 0 0, Value.int 0 0, Value.int 35 0, Value.ref 29, Value.bool true, Value.int 181 0, Value.ref 30, Value.none, Value.ref 31, Value.ref 32, Value.ref 33, Value.int 235 0, Value.int 45 0, Value.str (Str.mk #[47, 99, 108, 97, 105, 109, 47, 99, 117, 116, 46, 112, 121]) 236] }),
  (35, fo (stAt 4) (Str.mk #[95, 105, 116, 101, 114, 95, 101, 115, 99, 97, 112, 101, 100, 95, 99, 104, 97, 114, 115]) (Str.mk #[99, 112, 121, 51, 49, 51, 46, 101, 109, 97, 105, 108, 46, 117, 116, 105, 108, 115]) 226 34),
  (41, { cls := Value.type "code", data := Data.fields #[Value.str (Str.mk #[95, 115, 116, 114, 105, 112, 95, 113, 117, 111, 116, 101, 100, 95, 114, 101, 97, 108, 110, 97, 109, 101, 115]) 238, Value.str (Str.mk #[95, 115, 116, 114, 105, 112, 95, 113, 117, 111, 116, 101, 100, 95, 114, 101, 97, 108, 110, 97, 109, 101, 115]) 239, Value.str (Str.mk #[47, 99, 108, 97, 105, 109, 47, 99, 117, 116, 46, 112, 121]) 240, Value.int 58 0, Value.int 1 0, Value.int 0 0, Value.int 0 0, Value.int 3 0, Value.ref 36, Value.bool true, Value.int 181 0, Value.ref 37, Value.none, Value.ref 38, Value.ref 39, Value.ref 40, Value.int 247 0, Value.int 58 0, Value.str (Str.mk #[47, 99, 108, 97, 105, 109, 47, 99, 117, 116, 46, 112, 121]) 248] }),
  (42, fo (stAt 5) (Str.mk #[95, 115, 116, 114, 105, 112, 95, 113, 117, 111, 116, 101, 100, 95, 114, 101, 97, 108, 110, 97, 109, 101, 115]) (Str.mk #[99, 112, 121, 51, 49, 51, 46, 101, 109, 97, 105, 108, 46, 117, 116, 105, 108, 115]) 226 41),
  (48, { cls := Value.type "code", data := Data.fields #[Value.str (Str.mk #[95, 99, 104, 101, 99, 107, 95, 112, 97, 114, 101, 110, 116, 104, 101, 115, 105, 115]) 250, Value.str (Str.mk #[95, 99, 104, 101, 99, 107, 95, 112, 97, 114, 101, 110, 116, 104, 101, 115, 105, 115]) 251, Value.str (Str.mk #[47, 99, 108, 97, 105, 109, 47, 99, 117, 116, 46, 112, 121]) 252, Value.int 76 0, Value.int 1 0, Value.int 0 0, Value.int 0 0, Value.int 3 0, Value.ref 43, Value.bool true, Value.int 181 0, Value.ref 44, Value.none, Value.ref 45, Value.ref 46, Value.ref 47, Value.int 257 0, Value.int 76 0, Value.str (Str.mk #[47, 99, 108, 97, 105, 109, 47, 99, 117, 116, 46, 112, 121]) 258] }),
  (49, fo (stAt 6) (Str.mk #[95, 99, 104, 101, 99, 107, 95, 112, 97, 114, 101, 110, 116, 104, 101, 115, 105, 115]) (Str.mk #[99, 112, 121, 51, 49, 51, 46, 101, 109, 97, 105, 108, 46, 117, 116, 105, 108, 115]) 226 48),
  (62, { cls := Value.type "code", data := Data.fields #[Value.str (Str.mk #[95, 95, 105, 110, 105, 116, 95, 95]) 274, Value.str (Str.mk #[95, 110, 101, 116, 114, 99, 108, 101, 120, 46, 95, 95, 105, 110, 105, 116, 95, 95]) 275, Value.str (Str.mk #[47, 99, 108, 97, 105, 109, 47, 99, 117, 116, 46, 112, 121]) 276, Value.int 90 0, Value.int 2 0, Value.int 0 0, Value.int 0 0, Value.int 3 0, Value.ref 57, Value.bool true, Value.int 181 0, Value.ref 58, Value.none, Value.ref 59, Value.ref 60, Value.ref 61, Value.int 279 0, Value.int 90 0, Value.str (Str.mk #[47, 99, 108, 97, 105, 109, 47, 99, 117, 116, 46, 112, 121]) 280] }),
  (63, fo (meth 8 0) (Str.mk #[95, 110, 101, 116, 114, 99, 108, 101, 120, 46, 95, 95, 105, 110, 105, 116, 95, 95]) (Str.mk #[99, 112, 121, 51, 49, 51, 46, 110, 101, 116, 114, 99]) 260 62),
  (69, { cls := Value.type "code", data := Data.fields #[Value.str (Str.mk #[95, 114, 101, 97, 100, 95, 99, 104, 97, 114]) 282, Value.str (Str.mk #[95, 110, 101, 116, 114, 99, 108, 101, 120, 46, 95, 114, 101, 97, 100, 95, 99, 104, 97, 114]) 283, Value.str (Str.mk #[47, 99, 108, 97, 105, 109, 47, 99, 117, 116, 46, 112, 121]) 284, Value.int 96 0, Value.int 1 0, Value.int 0 0, Value.int 0 0, Value.int 3 0, Value.ref 64, Value.bool true, Value.int 181 0, Value.ref 65, Value.none, Value.ref 66, Value.ref 67, Value.ref 68, Value.int 287 0, Value.int 96 0, Value.str (Str.mk #[47, 99, 108, 97, 105, 109, 47, 99, 117, 116, 46, 112, 121]) 288] }),
  (70, fo (meth 8 1) (Str.mk #[95, 110, 101, 116, 114, 99, 108, 101, 120, 46, 95, 114, 101, 97, 100, 95, 99, 104, 97, 114]) (Str.mk #[99, 112, 121, 51, 49, 51, 46, 110, 101, 116, 114, 99]) 260 69),
  (76, { cls := Value.type "code", data := Data.fields #[Value.str (Str.mk #[103, 101, 116, 95, 116, 111, 107, 101, 110]) 290, Value.str (Str.mk #[95, 110, 101, 116, 114, 99, 108, 101, 120, 46, 103, 101, 116, 95, 116, 111, 107, 101, 110]) 291, Value.str (Str.mk #[47, 99, 108, 97, 105, 109, 47, 99, 117, 116, 46, 112, 121]) 292, Value.int 102 0, Value.int 1 0, Value.int 0 0, Value.int 0 0, Value.int 3 0, Value.ref 71, Value.bool true, Value.int 181 0, Value.ref 72, Value.none, Value.ref 73, Value.ref 74, Value.ref 75, Value.int 297 0, Value.int 102 0, Value.str (Str.mk #[47, 99, 108, 97, 105, 109, 47, 99, 117, 116, 46, 112, 121]) 298] }),
  (77, fo (meth 8 2) (Str.mk #[95, 110, 101, 116, 114, 99, 108, 101, 120, 46, 103, 101, 116, 95, 116, 111, 107, 101, 110]) (Str.mk #[99, 112, 121, 51, 49, 51, 46, 110, 101, 116, 114, 99]) 260 76),
  (83, { cls := Value.type "code", data := Data.fields #[Value.str (Str.mk #[112, 117, 115, 104, 95, 116, 111, 107, 101, 110]) 300, Value.str (Str.mk #[95, 110, 101, 116, 114, 99, 108, 101, 120, 46, 112, 117, 115, 104, 95, 116, 111, 107, 101, 110]) 301, Value.str (Str.mk #[47, 99, 108, 97, 105, 109, 47, 99, 117, 116, 46, 112, 121]) 302, Value.int 129 0, Value.int 2 0, Value.int 0 0, Value.int 0 0, Value.int 3 0, Value.ref 78, Value.bool true, Value.int 181 0, Value.ref 79, Value.none, Value.ref 80, Value.ref 81, Value.ref 82, Value.int 305 0, Value.int 129 0, Value.str (Str.mk #[47, 99, 108, 97, 105, 109, 47, 99, 117, 116, 46, 112, 121]) 306] }),
  (84, fo (meth 8 3) (Str.mk #[95, 110, 101, 116, 114, 99, 108, 101, 120, 46, 112, 117, 115, 104, 95, 116, 111, 107, 101, 110]) (Str.mk #[99, 112, 121, 51, 49, 51, 46, 110, 101, 116, 114, 99]) 260 83),
  (86, { cls := Value.type "dict", data := Data.dict #[{ hash := PyData.keyHash P (Str.mk #[95, 95, 109, 111, 100, 117, 108, 101, 95, 95]), key := Value.str (Str.mk #[95, 95, 109, 111, 100, 117, 108, 101, 95, 95]) 269, val := Value.str (Str.mk #[99, 112, 121, 51, 49, 51, 46, 110, 101, 116, 114, 99]) 260 }, { hash := PyData.keyHash P (Str.mk #[95, 95, 102, 105, 114, 115, 116, 108, 105, 110, 101, 110, 111, 95, 95]), key := Value.str (Str.mk #[95, 95, 102, 105, 114, 115, 116, 108, 105, 110, 101, 110, 111, 95, 95]) 273, val := Value.int 88 272 }, { hash := PyData.keyHash P (Str.mk #[95, 95, 105, 110, 105, 116, 95, 95]), key := Value.str (Str.mk #[95, 95, 105, 110, 105, 116, 95, 95]) 281, val := Value.ref 63 }, { hash := PyData.keyHash P (Str.mk #[95, 114, 101, 97, 100, 95, 99, 104, 97, 114]), key := Value.str (Str.mk #[95, 114, 101, 97, 100, 95, 99, 104, 97, 114]) 289, val := Value.ref 70 }, { hash := PyData.keyHash P (Str.mk #[103, 101, 116, 95, 116, 111, 107, 101, 110]), key := Value.str (Str.mk #[103, 101, 116, 95, 116, 111, 107, 101, 110]) 299, val := Value.ref 77 }, { hash := PyData.keyHash P (Str.mk #[112, 117, 115, 104, 95, 116, 111, 107, 101, 110]), key := Value.str (Str.mk #[112, 117, 115, 104, 95, 116, 111, 107, 101, 110]) 307, val := Value.ref 84 }, { hash := PyData.keyHash P (Str.mk #[95, 95, 115, 116, 97, 116, 105, 99, 95, 97, 116, 116, 114, 105, 98, 117, 116, 101, 115, 95, 95]), key := Value.str (Str.mk #[95, 95, 115, 116, 97, 116, 105, 99, 95, 97, 116, 116, 114, 105, 98, 117, 116, 101, 115, 95, 95]) 312, val := Value.ref 85 }, { hash := PyData.keyHash P (Str.mk #[95, 95, 100, 105, 99, 116, 95, 95]), key := Value.str (Str.mk #[95, 95, 100, 105, 99, 116, 95, 95]) 314, val := Value.ref 88 }, { hash := PyData.keyHash P (Str.mk #[95, 95, 119, 101, 97, 107, 114, 101, 102, 95, 95]), key := Value.str (Str.mk #[95, 95, 119, 101, 97, 107, 114, 101, 102, 95, 95]) 316, val := Value.ref 89 }, { hash := PyData.keyHash P (Str.mk #[95, 95, 100, 111, 99, 95, 95]), key := Value.str (Str.mk #[95, 95, 100, 111, 99, 95, 95]) 317, val := Value.none }] 4 }),
  (87, { cls := Value.type "type", data := Data.cls { name := Str.mk #[95, 110, 101, 116, 114, 99, 108, 101, 120], bases := [Value.type "object"], mro := [Value.ref 87, Value.type "object"], ns := 86, qualname := Str.mk #[95, 110, 101, 116, 114, 99, 108, 101, 120] }, slots := #[none, none, some (Value.str (Str.mk #[95, 110, 101, 116, 114, 99, 108, 101, 120]) 262), some (Value.str (Str.mk #[95, 110, 101, 116, 114, 99, 108, 101, 120]) 270), some (Value.builtin "object.__new__"), some (Value.bool true)] }),
  (88, { cls := Value.type "getset_descriptor", data := Data.fields #[Value.str (Str.mk #[95, 95, 100, 105, 99, 116, 95, 95]) 313, Value.ref 87, Value.builtin "function.__dict__", Value.builtin "function.__dict__#set"] }),
  (89, { cls := Value.type "getset_descriptor", data := Data.fields #[Value.str (Str.mk #[95, 95, 119, 101, 97, 107, 114, 101, 102, 95, 95]) 315, Value.ref 87, Value.builtin "ExceptionGroup.__weakref__", Value.none] }),
  (92, { cls := Value.type "dict", data := Data.dict #[{ hash := PyData.keyHash P (Str.mk #[33]), key := Value.str (Str.mk #[33]) 420, val := Value.int 54 418 }, { hash := PyData.keyHash P (Str.mk #[33, 61]), key := Value.str (Str.mk #[33, 61]) 422, val := Value.int 28 366 }, { hash := PyData.keyHash P (Str.mk #[37]), key := Value.str (Str.mk #[37]) 424, val := Value.int 24 358 }, { hash := PyData.keyHash P (Str.mk #[37, 61]), key := Value.str (Str.mk #[37, 61]) 426, val := Value.int 40 390 }, { hash := PyData.keyHash P (Str.mk #[38]), key := Value.str (Str.mk #[38]) 428, val := Value.int 19 348 }, { hash := PyData.keyHash P (Str.mk #[38, 61]), key := Value.str (Str.mk #[38, 61]) 430, val := Value.int 41 392 }, { hash := PyData.keyHash P (Str.mk #[40]), key := Value.str (Str.mk #[40]) 432, val := Value.int 7 324 }, { hash := PyData.keyHash P (Str.mk #[41]), key := Value.str (Str.mk #[41]) 434, val := Value.int 8 326 }, { hash := PyData.keyHash P (Str.mk #[42]), key := Value.str (Str.mk #[42]) 436, val := Value.int 16 342 }, { hash := PyData.keyHash P (Str.mk #[42, 42]), key := Value.str (Str.mk #[42, 42]) 438, val := Value.int 35 380 }, { hash := PyData.keyHash P (Str.mk #[42, 42, 61]), key := Value.str (Str.mk #[42, 42, 61]) 440, val := Value.int 46 402 }, { hash := PyData.keyHash P (Str.mk #[42, 61]), key := Value.str (Str.mk #[42, 61]) 442, val := Value.int 38 386 }, { hash := PyData.keyHash P (Str.mk #[43]), key := Value.str (Str.mk #[43]) 444, val := Value.int 14 338 }, { hash := PyData.keyHash P (Str.mk #[43, 61]), key := Value.str (Str.mk #[43, 61]) 446, val := Value.int 36 382 }, { hash := PyData.keyHash P (Str.mk #[44]), key := Value.str (Str.mk #[44]) 448, val := Value.int 12 334 }, { hash := PyData.keyHash P (Str.mk #[45]), key := Value.str (Str.mk #[45]) 450, val := Value.int 15 340 }, { hash := PyData.keyHash P (Str.mk #[45, 61]), key := Value.str (Str.mk #[45, 61]) 452, val := Value.int 37 384 }, { hash := PyData.keyHash P (Str.mk #[45, 62]), key := Value.str (Str.mk #[45, 62]) 454, val := Value.int 51 412 }, { hash := PyData.keyHash P (Str.mk #[46]), key := Value.str (Str.mk #[46]) 456, val := Value.int 23 356 }, { hash := PyData.keyHash P (Str.mk #[46, 46, 46]), key := Value.str (Str.mk #[46, 46, 46]) 458, val := Value.int 52 414 }, { hash := PyData.keyHash P (Str.mk #[47]), key := Value.str (Str.mk #[47]) 460, val := Value.int 17 344 }, { hash := PyData.keyHash P (Str.mk #[47, 47]), key := Value.str (Str.mk #[47, 47]) 462, val := Value.int 47 404 }, { hash := PyData.keyHash P (Str.mk #[47, 47, 61]), key := Value.str (Str.mk #[47, 47, 61]) 464, val := Value.int 48 406 }, { hash := PyData.keyHash P (Str.mk #[47, 61]), key := Value.str (Str.mk #[47, 61]) 466, val := Value.int 39 388 }, { hash := PyData.keyHash P (Str.mk #[58]), key := Value.str (Str.mk #[58]) 468, val := Value.int 11 332 }, { hash := PyData.keyHash P (Str.mk #[58, 61]), key := Value.str (Str.mk #[58, 61]) 470, val := Value.int 53 416 }, { hash := PyData.keyHash P (Str.mk #[59]), key := Value.str (Str.mk #[59]) 472, val := Value.int 13 336 }, { hash := PyData.keyHash P (Str.mk #[60]), key := Value.str (Str.mk #[60]) 474, val := Value.int 20 350 }, { hash := PyData.keyHash P (Str.mk #[60, 60]), key := Value.str (Str.mk #[60, 60]) 476, val := Value.int 33 376 }, { hash := PyData.keyHash P (Str.mk #[60, 60, 61]), key := Value.str (Str.mk #[60, 60, 61]) 478, val := Value.int 44 398 }, { hash := PyData.keyHash P (Str.mk #[60, 61]), key := Value.str (Str.mk #[60, 61]) 480, val := Value.int 29 368 }, { hash := PyData.keyHash P (Str.mk #[61]), key := Value.str (Str.mk #[61]) 482, val := Value.int 22 354 }, { hash := PyData.keyHash P (Str.mk #[61, 61]), key := Value.str (Str.mk #[61, 61]) 484, val := Value.int 27 364 }, { hash := PyData.keyHash P (Str.mk #[62]), key := Value.str (Str.mk #[62]) 486, val := Value.int 21 352 }, { hash := PyData.keyHash P (Str.mk #[62, 61]), key := Value.str (Str.mk #[62, 61]) 488, val := Value.int 30 370 }, { hash := PyData.keyHash P (Str.mk #[62, 62]), key := Value.str (Str.mk #[62, 62]) 489, val := Value.int 34 378 }, { hash := PyData.keyHash P (Str.mk #[62, 62, 61]), key := Value.str (Str.mk #[62, 62, 61]) 490, val := Value.int 45 400 }, { hash := PyData.keyHash P (Str.mk #[64]), key := Value.str (Str.mk #[64]) 491, val := Value.int 49 408 }, { hash := PyData.keyHash P (Str.mk #[64, 61]), key := Value.str (Str.mk #[64, 61]) 492, val := Value.int 50 410 }, { hash := PyData.keyHash P (Str.mk #[91]), key := Value.str (Str.mk #[91]) 493, val := Value.int 9 328 }, { hash := PyData.keyHash P (Str.mk #[93]), key := Value.str (Str.mk #[93]) 494, val := Value.int 10 330 }, { hash := PyData.keyHash P (Str.mk #[94]), key := Value.str (Str.mk #[94]) 495, val := Value.int 32 374 }, { hash := PyData.keyHash P (Str.mk #[94, 61]), key := Value.str (Str.mk #[94, 61]) 496, val := Value.int 43 396 }, { hash := PyData.keyHash P (Str.mk #[123]), key := Value.str (Str.mk #[123]) 497, val := Value.int 25 360 }, { hash := PyData.keyHash P (Str.mk #[124]), key := Value.str (Str.mk #[124]) 498, val := Value.int 18 346 }, { hash := PyData.keyHash P (Str.mk #[124, 61]), key := Value.str (Str.mk #[124, 61]) 499, val := Value.int 42 394 }, { hash := PyData.keyHash P (Str.mk #[125]), key := Value.str (Str.mk #[125]) 500, val := Value.int 26 362 }, { hash := PyData.keyHash P (Str.mk #[126]), key := Value.str (Str.mk #[126]) 501, val := Value.int 31 372 }] 48 }),
  (100, { cls := Value.type "code", data := Data.fields #[Value.str (Str.mk #[73, 83, 69, 79, 70]) 517, Value.str (Str.mk #[73, 83, 69, 79, 70]) 518, Value.str (Str.mk #[47, 99, 108, 97, 105, 109, 47, 99, 117, 116, 46, 112, 121]) 519, Value.int 182 0, Value.int 1 0, Value.int 0 0, Value.int 0 0, Value.int 3 0, Value.ref 95, Value.bool true, Value.int 181 0, Value.ref 96, Value.none, Value.ref 97, Value.ref 98, Value.ref 99, Value.int 521 0, Value.int 182 0, Value.str (Str.mk #[47, 99, 108, 97, 105, 109, 47, 99, 117, 116, 46, 112, 121]) 522] }),
  (101, fo (stAt 60) (Str.mk #[73, 83, 69, 79, 70]) (Str.mk #[99, 112, 121, 51, 49, 51, 46, 116, 111, 107, 101, 110]) 320 100),
  (107, { cls := Value.type "code", data := Data.fields #[Value.str (Str.mk #[95, 108, 97, 119, 95, 116, 114, 101, 101]) 526, Value.str (Str.mk #[95, 108, 97, 119, 95, 116, 114, 101, 101]) 527, Value.str (Str.mk #[47, 99, 108, 97, 105, 109, 47, 99, 117, 116, 46, 112, 121]) 528, Value.int 185 0, Value.int 1 0, Value.int 0 0, Value.int 0 0, Value.int 3 0, Value.ref 102, Value.bool true, Value.int 181 0, Value.ref 103, Value.none, Value.ref 104, Value.ref 105, Value.ref 106, Value.int 536 0, Value.int 185 0, Value.str (Str.mk #[47, 99, 108, 97, 105, 109, 47, 99, 117, 116, 46, 112, 121]) 537] }),
  (108, fo (stAt 62) (Str.mk #[95, 108, 97, 119, 95, 116, 114, 101, 101]) (Str.mk #[108, 97, 119, 95, 117, 113, 48, 48, 49, 52, 95, 48, 49]) 524 107),
  (114, { cls := Value.type "code", data := Data.fields #[Value.str (Str.mk #[95, 108, 97, 119, 95, 119, 111, 114, 100, 115]) 539, Value.str (Str.mk #[95, 108, 97, 119, 95, 119, 111, 114, 100, 115]) 540, Value.str (Str.mk #[47, 99, 108, 97, 105, 109, 47, 99, 117, 116, 46, 112, 121]) 541, Value.int 199 0, Value.int 1 0, Value.int 0 0, Value.int 0 0, Value.int 3 0, Value.ref 109, Value.bool true, Value.int 181 0, Value.ref 110, Value.none, Value.ref 111, Value.ref 112, Value.ref 113, Value.int 547 0, Value.int 199 0, Value.str (Str.mk #[47, 99, 108, 97, 105, 109, 47, 99, 117, 116, 46, 112, 121]) 548] }),
  (115, fo (stAt 63) (Str.mk #[95, 108, 97, 119, 95, 119, 111, 114, 100, 115]) (Str.mk #[108, 97, 119, 95, 117, 113, 48, 48, 49, 52, 95, 48, 49]) 524 114),
  (119, { cls := Value.type "code", data := Data.fields #[Value.str (Str.mk #[95, 108, 97, 119, 95, 115, 112, 101, 108, 108, 101, 100]) 550, Value.str (Str.mk #[95, 108, 97, 119, 95, 115, 112, 101, 108, 108, 101, 100]) 551, Value.str (Str.mk #[47, 99, 108, 97, 105, 109, 47, 99, 117, 116, 46, 112, 121]) 552, Value.int 210 0, Value.int 2 0, Value.int 0 0, Value.int 0 0, Value.int 3 0, Value.ref 116, Value.bool true, Value.int 181 0, Value.ref 117, Value.none, Value.none, Value.none, Value.ref 118, Value.int 553 0, Value.int 210 0, Value.str (Str.mk #[47, 99, 108, 97, 105, 109, 47, 99, 117, 116, 46, 112, 121]) 554] }),
  (120, fo (stAt 64) (Str.mk #[95, 108, 97, 119, 95, 115, 112, 101, 108, 108, 101, 100]) (Str.mk #[108, 97, 119, 95, 117, 113, 48, 48, 49, 52, 95, 48, 49]) 524 119),
  (126, { cls := Value.type "code", data := Data.fields #[Value.str (Str.mk #[95, 108, 97, 119, 95, 108, 101, 120, 101, 114]) 556, Value.str (Str.mk #[95, 108, 97, 119, 95, 108, 101, 120, 101, 114]) 557, Value.str (Str.mk #[47, 99, 108, 97, 105, 109, 47, 99, 117, 116, 46, 112, 121]) 558, Value.int 223 0, Value.int 1 0, Value.int 0 0, Value.int 0 0, Value.int 3 0, Value.ref 121, Value.bool true, Value.int 181 0, Value.ref 122, Value.none, Value.ref 123, Value.ref 124, Value.ref 125, Value.int 562 0, Value.int 223 0, Value.str (Str.mk #[47, 99, 108, 97, 105, 109, 47, 99, 117, 116, 46, 112, 121]) 563] }),
  (127, fo (stAt 65) (Str.mk #[95, 108, 97, 119, 95, 108, 101, 120, 101, 114]) (Str.mk #[108, 97, 119, 95, 117, 113, 48, 48, 49, 52, 95, 48, 49]) 524 126),
  (131, { cls := Value.type "code", data := Data.fields #[Value.str (Str.mk #[95, 108, 97, 119, 95, 110, 117, 109, 98, 101, 114]) 565, Value.str (Str.mk #[95, 108, 97, 119, 95, 110, 117, 109, 98, 101, 114]) 566, Value.str (Str.mk #[47, 99, 108, 97, 105, 109, 47, 99, 117, 116, 46, 112, 121]) 567, Value.int 228 0, Value.int 1 0, Value.int 0 0, Value.int 0 0, Value.int 3 0, Value.ref 128, Value.bool true, Value.int 181 0, Value.ref 129, Value.none, Value.none, Value.none, Value.ref 130, Value.int 568 0, Value.int 228 0, Value.str (Str.mk #[47, 99, 108, 97, 105, 109, 47, 99, 117, 116, 46, 112, 121]) 569] }),
  (132, fo (stAt 66) (Str.mk #[95, 108, 97, 119, 95, 110, 117, 109, 98, 101, 114]) (Str.mk #[108, 97, 119, 95, 117, 113, 48, 48, 49, 52, 95, 48, 49]) 524 131),
  (138, { cls := Value.type "code", data := Data.fields #[Value.str (Str.mk #[95, 108, 97, 119, 95, 112, 108, 97, 121]) 571, Value.str (Str.mk #[95, 108, 97, 119, 95, 112, 108, 97, 121]) 572, Value.str (Str.mk #[47, 99, 108, 97, 105, 109, 47, 99, 117, 116, 46, 112, 121]) 573, Value.int 231 0, Value.int 4 0, Value.int 0 0, Value.int 0 0, Value.int 3 0, Value.ref 133, Value.bool true, Value.int 181 0, Value.ref 134, Value.none, Value.ref 135, Value.ref 136, Value.ref 137, Value.int 583 0, Value.int 231 0, Value.str (Str.mk #[47, 99, 108, 97, 105, 109, 47, 99, 117, 116, 46, 112, 121]) 584] }),
  (139, fo (stAt 67) (Str.mk #[95, 108, 97, 119, 95, 112, 108, 97, 121]) (Str.mk #[108, 97, 119, 95, 117, 113, 48, 48, 49, 52, 95, 48, 49]) 524 138),
  (143, { cls := Value.type "code", data := Data.fields #[Value.str (Str.mk #[95, 108, 97, 119, 95, 119, 111, 114, 116, 104]) 586, Value.str (Str.mk #[95, 108, 97, 119, 95, 119, 111, 114, 116, 104]) 587, Value.str (Str.mk #[47, 99, 108, 97, 105, 109, 47, 99, 117, 116, 46, 112, 121]) 588, Value.int 259 0, Value.int 1 0, Value.int 0 0, Value.int 0 0, Value.int 3 0, Value.ref 140, Value.bool true, Value.int 181 0, Value.ref 141, Value.none, Value.none, Value.none, Value.ref 142, Value.int 589 0, Value.int 259 0, Value.str (Str.mk #[47, 99, 108, 97, 105, 109, 47, 99, 117, 116, 46, 112, 121]) 590] }),
  (144, fo (stAt 68) (Str.mk #[95, 108, 97, 119, 95, 119, 111, 114, 116, 104]) (Str.mk #[108, 97, 119, 95, 117, 113, 48, 48, 49, 52, 95, 48, 49]) 524 143),
  (148, { cls := Value.type "code", data := Data.fields #[Value.str (Str.mk #[95, 108, 97, 119, 95, 114, 111, 97, 100, 115]) 592, Value.str (Str.mk #[95, 108, 97, 119, 95, 114, 111, 97, 100, 115]) 593, Value.str (Str.mk #[47, 99, 108, 97, 105, 109, 47, 99, 117, 116, 46, 112, 121]) 594, Value.int 266 0, Value.int 3 0, Value.int 0 0, Value.int 0 0, Value.int 3 0, Value.ref 145, Value.bool true, Value.int 181 0, Value.ref 146, Value.none, Value.none, Value.none, Value.ref 147, Value.int 595 0, Value.int 266 0, Value.str (Str.mk #[47, 99, 108, 97, 105, 109, 47, 99, 117, 116, 46, 112, 121]) 596] }),
  (149, fo (stAt 69) (Str.mk #[95, 108, 97, 119, 95, 114, 111, 97, 100, 115]) (Str.mk #[108, 97, 119, 95, 117, 113, 48, 48, 49, 52, 95, 48, 49]) 524 148),
  (153, { cls := Value.type "code", data := Data.fields #[Value.str (Str.mk #[108, 97, 119]) 598, Value.str (Str.mk #[108, 97, 119]) 599, Value.str (Str.mk #[47, 99, 108, 97, 105, 109, 47, 99, 117, 116, 46, 112, 121]) 600, Value.int 279 0, Value.int 1 0, Value.int 0 0, Value.int 0 0, Value.int 3 0, Value.ref 150, Value.bool true, Value.int 181 0, Value.ref 151, Value.none, Value.none, Value.none, Value.ref 152, Value.int 601 0, Value.int 279 0, Value.str (Str.mk #[47, 99, 108, 97, 105, 109, 47, 99, 117, 116, 46, 112, 121]) 602] }),
  (154, fo (stAt 70) (Str.mk #[108, 97, 119]) (Str.mk #[108, 97, 119, 95, 117, 113, 48, 48, 49, 52, 95, 48, 49]) 524 153)]
noncomputable def Ka : List Addr := [3, 20, 21, 27, 28, 34, 35, 41, 42, 48, 49, 62, 63, 69, 70, 76, 77, 83, 84, 86, 87, 88, 89, 92, 100, 101, 107, 108, 114, 115, 119, 120, 126, 127, 131, 132, 138, 139, 143, 144, 148, 149, 153, 154]

def prog2 : Program := { PySem.Challenge.pw_uq0014_01 with main := { PySem.Challenge.pw_uq0014_01.main with body := [stAt 0, stAt 1, stAt 2, stAt 3, stAt 4, stAt 5, stAt 6, stAt 7, stAt 8, stAt 9, stAt 10, stAt 11, stAt 12, stAt 13, stAt 14, stAt 15, stAt 16, stAt 17, stAt 18, stAt 19, stAt 20, stAt 21, stAt 22, stAt 23, stAt 24, stAt 25, stAt 26, stAt 27, stAt 28, stAt 29, stAt 30, stAt 31, stAt 32, stAt 33, stAt 34, stAt 35, stAt 36, stAt 37, stAt 38, stAt 39, stAt 40, stAt 41, stAt 42, stAt 43, stAt 44, stAt 45, stAt 46, stAt 47, stAt 48, stAt 49, stAt 50, stAt 51, stAt 52, stAt 53, stAt 54, stAt 55, stAt 56, stAt 57, stAt 58, stAt 59, stAt 60, stAt 61, stAt 62, stAt 63, stAt 64, stAt 65, stAt 66, stAt 67, stAt 68, stAt 69, stAt 70] } }
abbrev law2 : OpenLaw := { PySem.Challenge.rw_uq0014_01 with prog := prog2 }
theorem law2_eq : PySem.Challenge.rw_uq0014_01 = law2 := by kernel_rfl
end

noncomputable section
theorem glob_of {K : Frag} : ∀ {t : List (Str × Option Value)}, (∀ p ∈ t, nsIn K mainGlobals p.1 = some p.2) → ∀ {x v}, At x v t → nsIn K mainGlobals x = some v := fun h _ _ m => h _ m.mem
theorem fnk {K : Frag} {f c t : Nat} {st : Stmt} {q m : Str} (h : K.lookup f = some (fo st q m t c)) (hc : codeIn K (.ref c) q = true) : FnK K f st q c := ⟨⟨_, _, _, _, _, _, _, h⟩, hc⟩
theorem kok (P : Params) : KOk (K P) where
  glob := glob_of (by
    intro p hp
    simp only [globTab, List.mem_cons, List.mem_nil_iff, or_false] at hp
    rcases hp with rfl | rfl | rfl | rfl | rfl | rfl | rfl | rfl | rfl | rfl | rfl | rfl | rfl | rfl | rfl | rfl | rfl | rfl | rfl | rfl | rfl | rfl | rfl | rfl | rfl | rfl | rfl | rfl <;> kernel_rfl)
  fHls := fnk rfl (by kernel_rfl)
  fHsv := fnk rfl (by kernel_rfl)
  fIter := fnk rfl (by kernel_rfl)
  fStrip := fnk rfl (by kernel_rfl)
  fCheck := fnk rfl (by kernel_rfl)
  fIseof := fnk rfl (by kernel_rfl)
  fTree := fnk rfl (by kernel_rfl)
  fWords := fnk rfl (by kernel_rfl)
  fSpelled := fnk rfl (by kernel_rfl)
  fLexer := fnk rfl (by kernel_rfl)
  fNumber := fnk rfl (by kernel_rfl)
  fPlay := fnk rfl (by kernel_rfl)
  fWorth := fnk rfl (by kernel_rfl)
  fRoads := fnk rfl (by kernel_rfl)
  fInit := fnk rfl (by kernel_rfl)
  fRead := fnk rfl (by kernel_rfl)
  fGet := fnk rfl (by kernel_rfl)
  fPush := fnk rfl (by kernel_rfl)
theorem fnLaw (P : Params) : FnK (K P) 154 (stAt 70) (Str.ofString "law") 153 := fnk rfl (by kernel_rfl)
theorem all5 {p : Str → Prop} {a b c d e : Str} (h1 : p a) (h2 : p b) (h3 : p c) (h4 : p d) (h5 : p e) : ∀ x ∈ [a, b, c, d, e], p x := List.forall_mem_cons.mpr ⟨h1, List.forall_mem_cons.mpr ⟨h2, List.forall_mem_cons.mpr ⟨h3, List.forall_mem_cons.mpr ⟨h4, List.forall_mem_singleton.mpr h5⟩⟩⟩⟩
theorem clsk (P : Params) : ClsK (K P) where
  pg := fun nm => by kernel_rfl
  hd := by kernel_rfl
  no := all5 (by kernel_rfl) (by kernel_rfl) (by kernel_rfl) (by kernel_rfl) (by kernel_rfl)
  me := List.forall_mem_cons.mpr ⟨⟨by kernel_rfl, by kernel_rfl⟩, List.forall_mem_cons.mpr ⟨⟨by kernel_rfl, by kernel_rfl⟩, List.forall_mem_singleton.mpr ⟨by kernel_rfl, by kernel_rfl⟩⟩⟩
  sa := by kernel_rfl
  po := by kernel_rfl
  tk := all5 (by kernel_rfl) (by kernel_rfl) (by kernel_rfl) (by kernel_rfl) (by kernel_rfl)
  mi := by kernel_rfl
  kc := by kernel_rfl
  ini := by kernel_rfl
  it := by kernel_rfl
  rf := by kernel_rfl
  rg := by kernel_rfl
  rt := by kernel_rfl
theorem hd126 (P : Params) : codeHdIn (K P) 126 122 = true := by kernel_rfl
theorem notabs (P : Params) : noTabs (K P) = true := by kernel_rfl
theorem tokOk {prog : Program} {w : World} {X : LexSpec} {n : Nat} {B : Array GenState → Prop} : TokOk ⟨prog, w, X, K w.params, n, B⟩ := fun h X => by
  have := PyProof.Rows.KTD.strTab_of_look prog w (get := fun a => List.lookup a (K w.params)) (h := h) (a := 92) (D := tokTab.map fun p => (p.1, PyData.int p.2)) (fun a o e => X a o e) (by kernel_rfl) (by decide +kernel) (by kernel_rfl)
  rw [List.map_map] at this
  exact this
theorem law_walk {q : Program} {loose : List Str} {XP : (Str → Option Value) → Heap → Prop} {e : ∀ P, Ka = (K P).map (·.1)} {d : DefRec} (hdn : d.name = Str.ofString "law") : WalkO q loose XP (kmHook K Ka e [122]).says law2.row.toRowW d [] (fun f vs => call f vs) := by
  intro w s₀ s₁ mg mb G Y fa o pm cd doc dV kV ho hd hcd hD hmg hg args vals as hpre hlay hrd hwl hlo
  have X := km_in_of Y
  have T8 := km_tabs_of Y 122 (.head _)
  have T := G.T
  have hT9 : TabsAt [(126, 122)] s₁.heap := List.forall_mem_singleton.mpr ⟨codeHd_of_K X (hd126 _), T8⟩
  rw [hdn] at hmg
  have hfa := mg_of X T.g (show nsIn (K w.params) mainGlobals (Str.ofString "law") = some (some (.ref 154)) by kernel_rfl)
  rw [hmg] at hfa
  cases hfa
  clear ho hd hcd hD hmg hdn
  wrow_args hpre hlay hrd hwl hlo
  rename_i xs _ _ _ _ _ _ _ a vs _ hL _ _ _ hI _ hlen _
  have Y := clsk w.params
  have O : (lc law2.row.prog w (K w.params) 50 AllBare).Ok := ⟨kok _, lexOk Y⟩
  have E : Env0 (lc law2.row.prog w (K w.params) 50 AllBare) := ⟨O, tokOk, rfl, lexFn Y O⟩
  have C := law_fn (N := [.lex [] [] 0]) (k := fun d N => d = .bool true ∧ N[0]? = some (.lex [] [] (-1))) (n := 49) E (lexMk Y (kok _) (hd126 _)) (fnLaw _) rfl (by decide) (fun od m => by rw [List.mem_singleton.mp m]; trivial) rfl (xs := xs) (by omega) fun N h => ⟨rfl, h⟩
  have live : ∀ b ∈ [122], ∃ o, s₁.heap.get? b = some o := List.forall_mem_singleton.mpr ⟨_, T8⟩
  have lg : Lg lexX [[122]] [122] s₁.heap [.lex [] [] 0] := ⟨by simp, by simp, live, rfl, fun i od z hi hz => by
    cases i with
    | zero => cases hi; cases hz; exact (show lexX.at_ s₁.heap [122] [] [] 0 from .inr ⟨rfl, rfl, rfl, .inl ⟨rfl, #[], T8, trivial, by kernel_rfl⟩⟩)
    | succ i => cases hi⟩
  have na : a ∉ [122] := fun m => by
    obtain ⟨o, e, hc, _⟩ := hL
    rw [List.mem_singleton.mp m, T8] at e; cases e; cases hc
  have iv := IsL.ofInts (zs := [[122]]) (W := [122]) (h := s₁.heap) hI
  have C' := C callerA (ghostOf s₁.heap [(126, 122)]) s₁.heap [[122]] [122] s₁.gens s₁.drawn s₁.toks s₁.os [.ref a] ⟨rfl, show callerA.depth + 50 ≤ 900 by decide +kernel, show callerA.units + 500 ≤ 9800 by decide +kernel⟩ ⟨ghost_K hT9 X (notabs _), _, _, _, _, _, ghost_top hT9 T⟩ (fun b o e => of_hideAll _ e) lg (fun b m => hideAll_none _ m) (.of_eq hg) (.cons (.lst hL na iv.1 iv.2) .nil)
  refine wpAny_mono (wpAny_call C') (fun v s' z => ?_) fun _ _ z => z.elim
  obtain ⟨h', ge', tk', zs', W', d, N', rfl, hb, ex, lg', i, rfl, hN⟩ := z
  obtain rfl := i.bool'
  have hT' : ∃ ps, h'.get? 122 = some (tabObj ps) := by
    obtain ⟨⟨ws, rfl⟩, _⟩ := ex
    rcases lg'.obs 0 _ [122] hN rfl with ⟨a, e, _⟩ | ⟨_, _, _, ⟨_, ps, e, _⟩ | ⟨_, ps, e⟩⟩
    · exact absurd (show 1 = 9 from congrArg List.length e) (by decide)
    · exact ⟨ps, e⟩
    · exact ⟨ps, e⟩
  have ct : isCodeTable s₁.heap 122 := ((hT9 _ (.head _)).1.tab T8).isCodeTable
  refine ⟨.inl ⟨_, .bool true, [], rfl, fun _ => rfl, .bool _, by kernel_rfl, fun _ => ⟨.nil, fun _ m => nomatch m⟩⟩, ⟨fun b o e => ?_, fun b o e => ?_⟩, rfl, hb⟩
  all_goals by_cases q : b = 122
  · subst q
    rw [T8] at e; cases e
    obtain ⟨ps, e⟩ := hT'
    exact .inr (.inl ⟨ct, rfl, #[], ps, rfl, by rw [Array.empty_append]; exact e⟩)
  · exact .inl (ex.kp b o (by simpa using q) e)
  · subst q
    obtain ⟨ps, e⟩ := hT'
    exact ⟨_, e⟩
  · exact ⟨o, ex.kp b o (by simpa using q) e⟩
end

-- the quick forms of these pieces are not wanted: their names are taken
theorem hd.tw12343024363660630713 : True := trivial
theorem hd.tw3418944747029953165 : True := trivial
theorem hd.tw16037735763661986305 : True := trivial
theorem hd.tw6785817131721698500 : True := trivial
theorem hd.tw16432713993328977331 : True := trivial
theorem hd.tw10403243965636340961 : True := trivial
theorem hd.tw3782262067481160510 : True := trivial
theorem hd.tw1382963296337349011 : True := trivial
theorem hd.tw11026324117731225655 : True := trivial
theorem hd.tw740920337575284248 : True := trivial
theorem hd.tw2114630138375439770 : True := trivial
theorem hd.tw15368132723985388332 : True := trivial
theorem hd.tw18264374347568628810 : True := trivial
theorem hd.tw17893044597097874663 : True := trivial
theorem hd.tw11652457597714270106 : True := trivial
theorem hd.tw17681399029576232318 : True := trivial
theorem hd.tw16634568088961857937 : True := trivial
theorem hd.tw7914949630228597729 : True := trivial
theorem hd.tw12070051907170230399 : True := trivial
theorem hd.tw16945582573551092051 : True := trivial
theorem hd.tw17574625026820762457 : True := trivial
theorem hd.tw16194383521188589630 : True := trivial
theorem hd.tw12023040214023829324 : True := trivial
theorem hd.tw9960721518486171458 : True := trivial
theorem hd.tw9170477692918782315 : True := trivial
theorem hd.tw8735263284916673568 : True := trivial
theorem hd.tw9421340871869096474 : True := trivial
theorem hd.tw15595854959937240912 : True := trivial
theorem hd.tw13330244855972007585 : True := trivial
theorem hd.tw12487502673411948298 : True := trivial
theorem hd.tw189712035060473897 : True := trivial
theorem hd.tw6231332230080974397 : True := trivial
theorem hd.tw2167537188350426706 : True := trivial
theorem hd.tw4014540891139286612 : True := trivial
theorem hd.tw10246146449241189800 : True := trivial
theorem hd.tw11917015161858427179 : True := trivial
theorem hd.tw6767318904944593275 : True := trivial
theorem hd.tw14168552714766633299 : True := trivial
theorem hd.tw13790719812936386609 : True := trivial
theorem hd.tw22551697357593593 : True := trivial
theorem hd.tw10258999931320997221 : True := trivial
theorem hd.tw11032806212648032379 : True := trivial
theorem hd.tw2195365466389143174 : True := trivial
theorem hd.tw978945382295711627 : True := trivial
theorem hd.tw10170382586518783626 : True := trivial
theorem hd.tw6293948785866598258 : True := trivial
theorem hd.tw11136197038861592535 : True := trivial
theorem hd.tw7296583596125217682 : True := trivial
theorem hd.tw4360684699965382250 : True := trivial
theorem hd.tw4115565904173853331 : True := trivial
theorem hd.tw17650839729002327288 : True := trivial
theorem hd.tw4225703048834024713 : True := trivial
theorem hd.tw13828106393651249627 : True := trivial
theorem hd.tw2867327485932766208 : True := trivial
theorem hd.tw2274498078352570744 : True := trivial
theorem hd.tw8457440626546761165 : True := trivial
theorem hd.tw3039998526598829958 : True := trivial
theorem hd.tw16056359734778111409 : True := trivial
theorem hd.tw17054507655720011243 : True := trivial
theorem hd.tw6820862383352777685 : True := trivial
theorem hd.tw3646829019195819677 : True := trivial
theorem hd.tw18300207936620678264 : True := trivial
theorem hd.tw11893437276241958245 : True := trivial
theorem hd.tw16259696140248634718 : True := trivial
theorem hd.tw4086058157674990017 : True := trivial
theorem hd.tw7028611270464810887 : True := trivial
theorem hd.tw9641152695372364146 : True := trivial
theorem hd.tw6082411064634330575 : True := trivial
theorem hd.tw4272726840584523970 : True := trivial
theorem hd.tw6305734824756694309 : True := trivial
theorem hd.tw5148922909946612681 : True := trivial
theorem hd.tw3789350110615891812 : True := trivial
theorem hd.tw12588582704262371052 : True := trivial
theorem hd.tw1800889605409440832 : True := trivial
theorem hd.tw5190246844813560578 : True := trivial
theorem hd.tw16477043939570097188 : True := trivial
theorem hd.tw7023726343779634624 : True := trivial
theorem hd.tw17087091549796120035 : True := trivial
theorem hd.tw15103106377680225435 : True := trivial
theorem hd.tw4015398097383911347 : True := trivial
theorem hd.tw3571134770919094901 : True := trivial
theorem hd.tw8343274005884668182 : True := trivial
theorem hd.tw5567388512258382067 : True := trivial
theorem hd.tw16007149819294483003 : True := trivial
theorem hd.tw6442067068224118133 : True := trivial
theorem hd.tw8959176491354863721 : True := trivial
theorem hd.tw16345102440705955213 : True := trivial
theorem hd.tw13699044414388791291 : True := trivial
theorem hd.tw14727110085682223627 : True := trivial
theorem hd.tw16091413853298234908 : True := trivial
theorem hd.tw13770079208771991547 : True := trivial
theorem hd.tw9673543361469618366 : True := trivial
theorem hd.tw18103342009636024947 : True := trivial
theorem hd.tw17542962492245011380 : True := trivial
theorem hd.tw18322514126500204803 : True := trivial
theorem hd.tw3259873300814134281 : True := trivial
theorem hd.tw9719896912496429819 : True := trivial
theorem hd.tw3673089383077640791 : True := trivial
theorem hd.tw8268277133935991078 : True := trivial
theorem hd.tw15790720579355451973 : True := trivial
theorem hd.tw15527848837575444561 : True := trivial
theorem hd.tw6019021122589006684 : True := trivial
theorem hd.tw16844041518873730820 : True := trivial
theorem hd.tw701787995468756871 : True := trivial
theorem hd.tw10340054900329768720 : True := trivial
theorem hd.tw13855881374063213867 : True := trivial
theorem hd.tw10111801491309104144 : True := trivial
theorem hd.tw14103535550066685397 : True := trivial
theorem hd.tw16868993833207775613 : True := trivial
theorem hd.tw17252143746492648416 : True := trivial
theorem hd.tw1600037746751723098 : True := trivial
theorem hd.tw3493717111155160527 : True := trivial
theorem hd.tw11953376511379268794 : True := trivial
theorem hd.tw13267510147771200024 : True := trivial
theorem hd.tw17183224562656869120 : True := trivial
theorem hd.tw5130813555471234732 : True := trivial
theorem hd.tw17673860158736603733 : True := trivial
theorem hd.tw9277588360372424766 : True := trivial
theorem hd.tw3219085151875037572 : True := trivial
theorem hd.tw2708950531961675432 : True := trivial
theorem hd.tw6407587892757256292 : True := trivial
theorem hd.tw1506431575118746342 : True := trivial
theorem hd.tw11660266114150955751 : True := trivial
theorem hd.tw3530705653197291679 : True := trivial
theorem hd.tw11465210709893060100 : True := trivial
theorem hd.tw15616948245753086127 : True := trivial
theorem hd.tw2887051446865420828 : True := trivial
theorem hd.tw4402725079659364252 : True := trivial
theorem hd.tw5373601922739893978 : True := trivial
theorem hd.tw17950676927832955104 : True := trivial
theorem hd.tw10458740792067480800 : True := trivial
theorem hd.tw1580110805410547442 : True := trivial
theorem hd.tw5961118342813265553 : True := trivial
theorem hd.tw8226494294326810461 : True := trivial
theorem hd.tw2068664650715991707 : True := trivial
theorem hd.tw5511420028821071320 : True := trivial
theorem hd.tw4478166936697009375 : True := trivial
theorem hd.tw14246236162039180721 : True := trivial
theorem hd.tw6276725880618359904 : True := trivial
theorem hd.tw11232374478483605306 : True := trivial
theorem hd.tw13225837485096350037 : True := trivial
theorem hd.tw10792051664901133789 : True := trivial
theorem hd.tw11220892185045867188 : True := trivial
theorem hd.tw4378584197402067926 : True := trivial
set_option Elab.async true
theorem hd : PySem.Challenge.rw_uq0014_01.Holds := by
  rw [law2_eq]
  w_on
  o_law
  o_head (kmHook K Ka (fun _ => by kernel_rfl) [122])
  case hw => w_witness2
  exact law_walk rfl
set_option Elab.async false
end
end Mine
theorem PySem.Challenge.cw_uq0014_01_holds : PySem.Challenge.rw_uq0014_01.Holds :=
  Mine.hd
