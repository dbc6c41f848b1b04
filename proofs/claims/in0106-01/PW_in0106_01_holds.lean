import PyProof.Rows.All
import Wide.All
import OpenK.AllK
import Wide.FinOn
import PySem.Challenge.RW_in0106_01
open PySem PySem.W PyProof.Rows
set_option Elab.async false
set_option maxRecDepth 100000
set_option linter.unusedVariables false
namespace Mine
set_option maxHeartbeats 8000000 in
open_top hd for PySem.Challenge.rw_in0106_01
end Mine
open PySem.Calls
namespace Mine

/-- room: no exception handled, frames, C units -/
structure Rm (A : Around) (d u : Nat) : Prop where
  handled : A.handled = none
  depth : A.depth + d < recursionLimit
  units : A.units + u < cLine
theorem Rm.le {A : Around} {d u d' u' : Nat} (r : Rm A d u) (hd : d' ≤ d := by omega) (hu : u' ≤ u := by omega) : Rm A d' u' :=
  ⟨r.handled, by have := r.depth; omega, by have := r.units; omega⟩
theorem Rm.deeper {A : Around} {d u d' u' : Nat} (r : Rm A d u) (env : Env) (hd : d' + 1 ≤ d := by omega) (hu : u' + 3 ≤ u := by omega) : Rm (A.deeper env) d' u' :=
  ⟨r.handled, by have := r.depth; show A.depth + 1 + d' < _; omega, by have := r.units; show A.units + 3 + u' < _; omega⟩
theorem Rm.in1 {A : Around} {d u u' : Nat} (r : Rm A d u) (hu : u' + 1 ≤ u := by omega) : Rm A.in1 d u' :=
  ⟨r.handled, r.depth, by have := r.units; show A.units + 1 + u' < _; omega⟩
theorem Rm.room {A : Around} {d u : Nat} (r : Rm A d u) : A.depth < recursionLimit := by have := r.depth; omega
theorem Rm.crom {A : Around} {d u : Nat} (r : Rm A d u) : A.units < cLine := by have := r.units; omega

/-- the frame of a call of a plain def -/
theorem enter {prog : Program} {w : World} {A : Around} {s : Shared} {K : Frag} {R : Result → Shared → Prop} {name qual : Str} {params : Arguments} {body : List Stmt} {scope : Scope} {dV kV doc pm cdv ct oc : Value} {an od : Option Addr} {osl : Array (Option Value)} {f : Addr} {args : Args} {binds : List (Str × Value)} {dd u : Nat}
    (X : K.In s.heap) (hlim : s.heap.NoLimit) (rm : Rm A (dd + 1) (u + 3))
    (ho : K.lookup f = some ⟨oc, od, .func (fnOf name qual params body scope dV kV doc pm an cdv ct), osl⟩) (hcd : codeIn K cdv qual = true)
    (hbind : BindsTo s (fnOf name qual params body scope dV kV doc pm an cdv ct) args binds) (hloc : ∀ y ∈ binds, scope.names.lookup y.1 = some .local)
    (h : ∀ L h₁ tk₁ A' E' m, Fr s.heap L h₁ m → m = (fun y => binds.reverse.lookup y) → Rm A' dd u →
      wpAny (model prog w) A' (execs body (envOf qual scope L f cdv)) (fun fl s' => R (.ok (.ret (match fl with | .ret v => v | _ => .none))) s') E' { s with heap := h₁, toks := tk₁ })
    (hco : scope.isCoroutine = false := by rfl) (hgen : scope.isGenerator = false := by rfl) (hk : scope.kind = .function := by rfl)
    (hcell : ∀ x ∈ scope.names, x.2 ≠ .cell := by decide) : codeAny (model prog w) A (.call (.ref f) args) R s :=
  codeAny_call_def (fd := fnOf name qual params body scope dV kV doc pm an cdv ct) (body := body) (binds := binds) rm.room (X _ _ ho) rfl hlim (codeRec_of X hcd) rfl hbind hcell hloc
    (fun h₁ hns hk₁ => h _ h₁ _ _ _ _ ⟨hns, hk₁, Nat.le_refl _⟩ rfl (rm.deeper _)) hco hgen hk

/-- a text of these signs -/
def tx (l : List Nat) : Str := ⟨l.toArray⟩
theorem tx_len (l : List Nat) : (tx l).length = l.length := by simp [tx, Str.length]
theorem tx_app (a b : List Nat) : tx a ++ tx b = tx (a ++ b) := Str.ext' (by simp [Str.cps_append, tx])
theorem tx_inj {a b : List Nat} (h : tx a = tx b) : a = b := by
  have := congrArg (fun s : Str => s.cps.toList) h
  simpa [tx] using this
theorem of_tx (s : Str) : s = tx s.cps.toList := Str.ext' (by simp [tx])
theorem mul_tx (c : Nat) (n : Int) : Txt.mul (tx [c]) n = tx (List.replicate n.toNat c) := by
  rw [of_tx (Txt.mul (tx [c]) n)]
  congr 1
  exact mul_one_list c n

/-- the lead of a number -/
def leadL (x : Nat) : List Nat :=
  List.replicate (x % 3) 32 ++ List.replicate (x / 3 % 2) 9 ++ List.replicate (x / 6 % 3) 32 ++ List.replicate (x / 18 % 3) 9 ++ List.replicate (x / 54 % 3) 32 ++ [120]

theorem leadL_len (x : Nat) : (leadL x).length ≤ 12 := by
  simp only [leadL, List.length_append, List.length_replicate, List.length_cons, List.length_nil]; omega
theorem leadL_mod (x : Nat) : leadL x = leadL (x % 162) := by
  unfold leadL
  have e1 : x % 3 = x % 162 % 3 := by omega
  have e2 : x / 3 % 2 = x % 162 / 3 % 2 := by omega
  have e3 : x / 6 % 3 = x % 162 / 6 % 3 := by omega
  have e4 : x / 18 % 3 = x % 162 / 18 % 3 := by omega
  have e5 : x / 54 % 3 = x % 162 / 54 % 3 := by omega
  rw [e1, e2, e3, e4, e5]

theorem sp_is : Str.ofString " " = tx [32] := by decide +kernel
theorem tab_is : Str.ofString "\t" = tx [9] := by decide +kernel
theorem x_is : Str.ofString "x" = tx [120] := by decide +kernel

theorem lead_eq (x : Int) (h0 : 0 ≤ x) :
    Txt.mul (Str.ofString " ") (x.fmod 3) ++ Txt.mul (Str.ofString "\t") ((x.fdiv 3).fmod 2) ++ Txt.mul (Str.ofString " ") ((x.fdiv 6).fmod 3)
      ++ Txt.mul (Str.ofString "\t") ((x.fdiv 18).fmod 3) ++ Txt.mul (Str.ofString " ") ((x.fdiv 54).fmod 3) ++ Str.ofString "x" = tx (leadL x.toNat) := by
  obtain ⟨n, rfl⟩ := Int.eq_ofNat_of_zero_le h0
  rw [sp_is, tab_is, x_is, mul_tx, mul_tx, mul_tx, mul_tx, mul_tx]
  rw [tx_app, tx_app, tx_app, tx_app, tx_app]
  have f3 : ∀ y : Int, 0 ≤ y → y.fmod 3 = y % 3 := fun y _ => by rw [Int.fmod_eq_emod_of_nonneg] ; omega
  have f2 : ∀ y : Int, 0 ≤ y → y.fmod 2 = y % 2 := fun y _ => by rw [Int.fmod_eq_emod_of_nonneg] ; omega
  have d : ∀ k : Int, 0 ≤ k → (n : Int).fdiv k = (n : Int) / k := fun k hk => by rw [Int.fdiv_eq_ediv_of_nonneg _ hk]
  unfold leadL
  rw [d 3 (by omega), d 6 (by omega), d 18 (by omega), d 54 (by omega)]
  rw [f3 _ (by omega), f2 _ (by omega), f3 _ (by omega), f3 _ (by omega), f3 _ (by omega)]
  simp only [Int.ofNat_eq_natCast, Int.toNat_natCast]
  congr 1

theorem mul_len (c : Nat) (n : Int) : (Txt.mul (tx [c]) n).length = n.toNat := by rw [mul_tx, tx_len, List.length_replicate]

/-- the column that a lead begins its word at, tabs of this size -/
def colGo (size : Int) : List Nat → Int → Int
  | [], c => c
  | k :: r, c => if k = 32 then colGo size r (c + 1) else if k = 9 then colGo size r (c - c.fmod size + size) else c
def colsL (l : List Nat) : List Int := (List.range 7).map fun (j : Nat) => colGo (1 + (j : Int) * 1) l 0

theorem ints_snoc : ∀ {vs : List Value} {ns : List Int} {i : Int} {t : Tok}, IntsAre vs ns → IntsAre (vs ++ [.int i t]) (ns ++ [i]) := by
  intro vs ns i t h
  induction h with
  | nil => exact .cons _ _ .nil
  | cons _ _ _ ih => exact .cons _ _ ih
theorem ints_nil : IntsAre [] [] := .nil
theorem sign_eq (c k : Nat) : ((⟨#[c]⟩ : Str) == tx [k]) = decide (c = k) := by
  by_cases h : c = k
  · subst h; simp [tx]
  · have : ¬ ((⟨#[c]⟩ : Str) = tx [k]) := fun e => h (by simpa [tx] using e)
    simp [h, this]

/-- one more in the place b of a table that grows -/
def bump (cs : List Int) (b : Nat) : List Int :=
  (if cs.length ≤ b then cs ++ List.replicate (b - cs.length + 1) 0 else cs).set b ((if cs.length ≤ b then cs ++ List.replicate (b - cs.length + 1) 0 else cs).getD b 0 + 1)
/-- the norm of a lead: the table of runs, the last blanks -/
def wsGo : List Nat → List Int → Nat → List Int × Nat
  | [], cs, b => (cs, b)
  | k :: r, cs, b => if k = 32 then wsGo r cs (b + 1) else if k = 9 then wsGo r (bump cs b) 0 else (cs, b)
def normL (l : List Nat) : List Int × Nat := wsGo l [] 0
theorem bump_len (cs : List Int) (b : Nat) : (bump cs b).length = max cs.length (b + 1) := by
  unfold bump
  split
  · rw [List.length_set, List.length_append, List.length_replicate]; omega
  · rw [List.length_set]; omega

theorem ints_app : ∀ {vs us : List Value} {ns ms : List Int}, IntsAre vs ns → IntsAre us ms → IntsAre (vs ++ us) (ns ++ ms) := by
  intro vs us ns ms h k
  induction h with
  | nil => exact k
  | cons n t _ ih => exact .cons n t ih
theorem ints_set : ∀ {vs : List Value} {ns : List Int}, IntsAre vs ns → ∀ (i : Nat) (x : Int) (t : Tok), IntsAre (vs.set i (.int x t)) (ns.set i x) := by
  intro vs ns h
  induction h with
  | nil => intro i x t; exact .nil
  | cons n t _ ih =>
    intro i x t'
    cases i with
    | zero => exact .cons _ _ (by assumption)
    | succ i => exact .cons _ _ (ih i x t')
theorem ints_get : ∀ {vs : List Value} {ns : List Int}, IntsAre vs ns → ∀ (i : Nat), i < ns.length → ∃ t, vs[i]? = some (.int (ns.getD i 0) t) := by
  intro vs ns h
  induction h with
  | nil => intro i hi; cases hi
  | cons n t _ ih =>
    intro i hi
    cases i with
    | zero => exact ⟨t, rfl⟩
    | succ i => obtain ⟨t', e⟩ := ih i (by simpa using hi); exact ⟨t', by simpa using e⟩
theorem ints_rep (k : Nat) (t : Tok) : IntsAre (List.replicate k (.int 0 t)) (List.replicate k 0) := by
  induction k with
  | zero => exact .nil
  | succ k ih => exact .cons _ _ ih
theorem foldl_rep1 (v : Value) : ∀ (k : Nat), List.foldl (fun x1 x2 => x1 ++ x2) (#[] : Array Value) (List.replicate k #[v]) = (List.replicate k v).toArray := by
  have gen : ∀ (k : Nat) (a : List Value), List.foldl (fun x1 x2 => x1 ++ x2) a.toArray (List.replicate k #[v]) = (a ++ List.replicate k v).toArray := by
    intro k
    induction k with
    | zero => intro a; simp
    | succ k ih =>
      intro a
      rw [List.replicate_succ, List.foldl_cons]
      have : a.toArray ++ #[v] = (a ++ [v]).toArray := by simp
      rw [this, ih]
      simp [List.replicate_succ]
  intro k
  simpa using gen k []

abbrev Hp := Heap
abbrev Led := List (Addr × Obj)

/-- what the walk knows of the program's own objects, at a heap -/
structure Gd (w : World) (mg mb : Str → Option Value) (I : Heap) : Prop where
  kin : (hd.heap_39 w.params).In I
  g : I.Ns mainGlobals mg
  b : I.Ns builtinsNs mb
  lim : I.NoLimit
  bi : ∀ x : Str, x ≠ "__name__" → mb x = bootBuiltins x
  bmain : ∃ bm ob, mg "__builtins__" = some (.ref bm) ∧ bm ≠ builtinsNs ∧ I.get? bm = some ob ∧ ob.cls = .type "module" ∧ ob.dict = some builtinsNs ∧ ob.data = .plain

theorem Gd.of_top {w : World} {loose : List Str} {mean : ExcName → Option Value} {mg mb : Str → Option Value} {I : Heap} (X : (hd.heap_39 w.params).In I) (T : Top topProg loose mean mg mb I) : Gd w mg mb I :=
  ⟨X, T.g, T.b, T.nolimit, T.builtins, T.bmain⟩
theorem Gd.keeps {w : World} {mg mb : Str → Option Value} {I h : Heap} (T : Gd w mg mb I) (k : I.StaysIn h) : Gd w mg mb h :=
  ⟨T.kin.keeps k, T.g.keeps k, T.b.keeps k, T.lim.keeps k, T.bi, let ⟨bm, ob, a, b, c, r⟩ := T.bmain; ⟨bm, ob, a, b, k _ _ c, r⟩⟩

/-- a frame at L with the names m, over what stays (I) and what may turn (mu) -/
structure Fm (I : Heap) (L : Addr) (h : Heap) (m : Str → Option Value) (mu : Led) : Prop where
  ns : h.Ns L m
  keep : I.StaysIn h
  out : I.get? L = none
  mus : ∀ p ∈ mu, h.get? p.1 = some p.2 ∧ p.1 ≠ L ∧ I.get? p.1 = none
  nd : (mu.map (·.1)).Nodup

theorem Fm.pure {I h h' : Heap} {L : Addr} {m : Str → Option Value} {mu : Led} (F : Fm I L h m mu) (k : h.StaysIn h') : Fm I L h' m mu :=
  ⟨F.ns.keeps k, fun b o e => k b o (F.keep b o e), F.out, fun p hp => ⟨k _ _ (F.mus p hp).1, (F.mus p hp).2⟩, F.nd⟩
theorem Fm.get {I h : Heap} {L a : Addr} {o : Obj} {m : Str → Option Value} {mu : Led} (F : Fm I L h m mu) (hm : (a, o) ∈ mu) : h.get? a = some o := (F.mus _ hm).1
theorem Fm.set {I h h' : Heap} {L : Addr} {m m' : Str → Option Value} {mu : Led} (F : Fm I L h m mu) (hn : h'.Ns L m') (hs : Heap.SameBut L h h') : Fm I L h' m' mu :=
  ⟨hn, fun b o e => (hs.2 b (fun q => by rw [q, F.out] at e; cases e)).trans (F.keep b o e), F.out,
    fun p hp => ⟨(hs.2 _ (F.mus p hp).2.1).trans (F.mus p hp).1, (F.mus p hp).2⟩, F.nd⟩
theorem Fm.push {I h : Heap} {L : Addr} {m : Str → Option Value} {mu : Led} (F : Fm I L h m mu) (o : Obj) (hf : o.isFreed = false := by rfl) : Fm I L (h.push o) m ((h.objs.size, o) :: mu) := by
  have F' := F.pure (h' := h.push o) fun b o' e => Heap.get?_push_of_some o e
  have hL := F.ns.lt
  refine ⟨F'.ns, F'.keep, F'.out, fun p hp => ?_, ?_⟩
  · rcases List.mem_cons.mp hp with rfl | hp
    · refine ⟨Heap.get?_push_size _ hf, Nat.ne_of_gt hL, ?_⟩
      cases hq : I.get? h.objs.size with
      | none => rfl
      | some o' => exact absurd (Heap.lt_size (F.keep _ _ hq)) (Nat.lt_irrefl _)
    · exact F'.mus p hp
  · rw [List.map_cons, List.nodup_cons]
    refine ⟨fun hm => ?_, F.nd⟩
    obtain ⟨p, hp, e⟩ := List.mem_map.mp hm
    have := Heap.lt_size (F.mus p hp).1
    rw [e] at this
    exact Nat.lt_irrefl _ this
/-- one of the turning objects is turned -/
theorem Fm.upd {I h h' : Heap} {L a : Addr} {m : Str → Option Value} {pre post : Led} {o o' : Obj} (F : Fm I L h m (pre ++ (a, o) :: post)) (hs : Heap.SameBut a h h') (ho : h'.get? a = some o') : Fm I L h' m (pre ++ (a, o') :: post) := by
  have Da := F.mus (a, o) (by simp)
  have nd := F.nd
  rw [List.map_append, List.map_cons] at nd
  have nd2 := List.nodup_append.mp nd
  have npre : ∀ p ∈ pre, p.1 ≠ a := fun p hp e => nd2.2.2 p.1 (List.mem_map_of_mem hp) a (by simp) e
  have npost : ∀ p ∈ post, p.1 ≠ a := fun p hp e => (List.nodup_cons.mp nd2.2.1).1 (List.mem_map.mpr ⟨p, hp, e⟩)
  refine ⟨F.ns.sameBut hs (Ne.symm Da.2.1), fun b ob e => (hs.2 b (fun q => by rw [q] at e; rw [Da.2.2] at e; cases e)).trans (F.keep b ob e), F.out, fun p hp => ?_, by rw [List.map_append, List.map_cons]; exact nd⟩
  rcases List.mem_append.mp hp with hp | hp
  · have P := F.mus p (List.mem_append_left _ hp)
    exact ⟨(hs.2 _ (npre p hp)).trans P.1, P.2⟩
  · rcases List.mem_cons.mp hp with rfl | hp
    · exact ⟨ho, Da.2⟩
    · have P := F.mus p (List.mem_append_right _ (.tail _ hp))
      exact ⟨(hs.2 _ (npost p hp)).trans P.1, P.2⟩
/-- all that stands but the frame and the turning objects may be taken for what stays -/
theorem Fm.absorb {I h : Heap} {L : Addr} {m : Str → Option Value} {mu : Led} (F : Fm I L h m mu) :
    ∃ I', I.StaysIn I' ∧ Fm I' L h m mu ∧ (∀ b o, h.get? b = some o → b ≠ L → b ∉ mu.map (·.1) → I'.get? b = some o) := by
  refine ⟨hideAll h (L :: mu.map (·.1)), fun b o e => hideAll_get _ (F.keep b o e) fun hm => ?_, ⟨F.ns, fun b o e => of_hideAll _ e, hideAll_none _ (.head _), fun p hp => ⟨(F.mus p hp).1, (F.mus p hp).2.1, hideAll_none _ (.tail _ (List.mem_map_of_mem hp))⟩, F.nd⟩, fun b o e h1 h2 => hideAll_get _ e fun hm => ?_⟩
  · rcases List.mem_cons.mp hm with rfl | hm
    · rw [F.out] at e; cases e
    · obtain ⟨p, hp, rfl⟩ := List.mem_map.mp hm
      rw [(F.mus p hp).2.2] at e; cases e
  · rcases List.mem_cons.mp hm with rfl | hm
    · exact h1 rfl
    · exact h2 hm
theorem Fm.drop {I h : Heap} {L : Addr} {m : Str → Option Value} {mu : Led} (F : Fm I L h m mu) : Fm I L h m [] :=
  ⟨F.ns, F.keep, F.out, (fun _ hp => nomatch hp), List.nodup_nil⟩
theorem Fm.of_fr {h₀ h : Heap} {L : Addr} {m : Str → Option Value} (F : Fr h₀ L h m) : Fm h₀ L h m [] :=
  ⟨F.ns, F.keep, by
    cases q : h₀.get? L with
    | none => rfl
    | some o => exact absurd (Nat.lt_of_lt_of_le (Heap.lt_size q) F.above) (Nat.lt_irrefl _), (fun _ hp => nomatch hp), List.nodup_nil⟩
theorem Fm.nd_ne {I h : Heap} {L : Addr} {m : Str → Option Value} {mu : Led} (F : Fm I L h m mu) {p : Addr × Obj} (hp : p ∈ mu) : p.1 ≠ L := (F.mus p hp).2.1

section
variable {M : Model} {A : Around} {E : Value → Shared → Prop} {s : Shared} {env : Env} {I : Heap} {m : Str → Option Value} {mu : Led}

/-- names -/
theorem ldL {x : Str} {pos : Pos} {v : Value} {Q : Value → Shared → Prop} (F : Fm I env.locals s.heap m mu) (hv : m x = some v) (h : Q v s)
    (hk : env.scope.kind = .function) (hl : env.kindOf x = some .local)
    (hd : (x == ("__debug__" : Str)) = false) : wpAny M A (eval (.Name x pos) env) Q E s := wpAny_Name (wpAny_loadName_local hk hl F.ns hv h) hd
theorem stL {x : Str} {v : Value} {Q : Unit → Shared → Prop} (F : Fm I env.locals s.heap m mu)
    (h : ∀ h', Fm I env.locals h' (fun y => if y = x then some v else m y) mu → Q () { s with heap := h', toks := s.toks + 1 })
    (hk : env.scope.kind = .function) (hl : env.kindOf x = some .local) : wpAny M A (storeName env x v) Q E s :=
  wpAny_storeName_local hl F.ns (fun h' hn hs => h h' (F.set hn hs)) (by rw [hk]; rfl)

abbrev cellO (v : Option Value) : Obj := { cls := .type "cell", data := .cell v }
theorem ldC {x : Str} {pos : Pos} {c : Addr} {v : Value} {Q : Value → Shared → Prop} {L : Addr} (F : Fm I L s.heap m mu) (hc : env.cells.lookup x = some c) (hm : (c, cellO (some v)) ∈ mu) (h : Q v s)
    (hk : env.scope.kind = .function) (hl : env.kindOf x = some .cell) (hd : (x == ("__debug__" : Str)) = false) :
    wpAny M A (eval (.Name x pos) env) Q E s := wpAny_Name (wpAny_loadName_cell hk hl hc ⟨_, F.get hm, rfl⟩ h) hd
theorem ldF {x : Str} {pos : Pos} {c : Addr} {v : Value} {Q : Value → Shared → Prop} (hc : env.cells.lookup x = some c) (hm : s.heap.get? c = some (cellO (some v))) (h : Q v s)
    (hk : env.scope.kind = .function) (hl : env.kindOf x = some .free) (hd : (x == ("__debug__" : Str)) = false) (hn : (x == ("__classdict__" : Str)) = false) :
    wpAny M A (eval (.Name x pos) env) Q E s := wpAny_Name (wpAny_loadName_free hk hl hc ⟨_, hm, rfl⟩ h hn) hd
theorem ldCc {x : Str} {pos : Pos} {c : Addr} {v : Value} {Q : Value → Shared → Prop} (hc : env.cells.lookup x = some c) (hm : s.heap.get? c = some (cellO (some v))) (h : Q v s)
    (hk : env.scope.kind = .function) (hl : env.kindOf x = some .cell) (hd : (x == ("__debug__" : Str)) = false) :
    wpAny M A (eval (.Name x pos) env) Q E s := wpAny_Name (wpAny_loadName_cell hk hl hc ⟨_, hm, rfl⟩ h) hd
theorem stC {x : Str} {c L : Addr} {v : Value} {v₀ : Option Value} {pre post : Led} {Q : Unit → Shared → Prop} (F : Fm I L s.heap m (pre ++ (c, cellO v₀) :: post)) (hc : env.cells.lookup x = some c)
    (h : ∀ h', Fm I L h' m (pre ++ (c, cellO (some v)) :: post) → Q () { s with heap := h' })
    (hk : env.scope.kind = .function) (hl : env.kindOf x = some .cell) : wpAny M A (storeName env x v) Q E s := by
  have Dc := F.get (a := c) (o := cellO v₀) (by simp)
  unfold storeName
  simp only [hl, hk]
  refine wpAny_bind (wpAny_cellOf hc ?_)
  unfold cellSet
  refine wpAny_bind (wpAny_load Dc ?_)
  exact wpAny_update Dc (h _ (F.upd (Heap.SameBut.update ..) (Heap.get?_update_self _ Dc rfl)))

theorem ldGlob {w : World} {mg mb : Str → Option Value} {x : Str} {pos : Pos} {v : Value} {Q : Value → Shared → Prop} (G : Gd w mg mb s.heap) (hv : mg x = some v) (h : Q v s)
    (hk : env.scope.kind = .function) (hx : env.kindOf x = some .globalImplicit) (hg : env.globals = mainGlobals) (hd : (x == ("__debug__" : Str)) = false) :
    wpAny M A (eval (.Name x pos) env) Q E s := Name_function_global hk hx (loadGlobal_global (hg ▸ G.g) hv h) hd
theorem ldBi {w : World} {mg mb : Str → Option Value} {x : Str} {pos : Pos} {v : Value} {Q : Value → Shared → Prop} (G : Gd w mg mb s.heap) (hm : mg x = none) (hv : bootBuiltins x = some v) (h : Q v s)
    (hk : env.scope.kind = .function) (hx : env.kindOf x = some .globalImplicit) (hg : env.globals = mainGlobals) (hb : env.builtins = builtinsNs) (hd : (x == ("__debug__" : Str)) = false) (hn : x ≠ "__name__") :
    wpAny M A (eval (.Name x pos) env) Q E s := Name_function_global hk hx (loadGlobal_builtin (hg ▸ G.g) hm (hb ▸ G.b) ((G.bi x hn).trans hv) h) hd
end

theorem isNone_of {α : Type} {x : Option α} (h : ∀ o, x = some o → False) : x = none := by cases x with | none => rfl | some o => exact (h o rfl).elim

section
variable {prog : Program} {w : World} {A : Around} {R : Result → Shared → Prop} {g : Array GenState} {d : Drawn} {os : OsState}

theorem comp_core {elt target iter : Expr} {ifs : List Expr} {scope : Scope} {pos : Pos} {It D : Addr} {fp wr hd : List Addr} {n : Nat} {P : Nat → Value → Prop} {St : Nat → Heap → Prop} {cenv : Env} {h0 I0 : Heap} {tk0 : Nat} {mu0 : Led} {xs : List Addr}
    (W : Walks prog w A It fp wr n P St) (hlive : ∀ i h, St i h → ∀ b ∈ wr, ∃ o, h.get? b = some o)
    (Fc : Heap → Prop) (Bd : Value → Heap → Prop) (Inv : Nat → List Value → Led → Heap → Prop)
    (hFc : ∀ h h', Fc h → (∀ b o, b ∈ hd → h.get? b = some o → h'.get? b = some o) → Fc h')
    (hFl : ∀ h, Fc h → ∀ b ∈ hd, ∃ o, h.get? b = some o)
    (hDhd : D ∉ hd) (hDf : D ∉ fp) (hhf : ∀ b ∈ hd, b ∉ fp)
    (asg : ∀ v h tk (Q : Unit → Shared → Prop), Fc h → (∀ h' tk', Fc h' → Bd v h' → (∀ b o, b ∉ hd → h.get? b = some o → h'.get? b = some o) → Q () ⟨h', g, d, tk', os⟩) →
      wpAny (model prog w) A (assign target cenv v) Q (notedBy (model prog w) A cenv fun e s' => R (.error e) s') ⟨h, g, d, tk, os⟩)
    (turn : ∀ i v ys mu I h tk, i < n → P i v → Inv i ys mu I → I0.StaysIn I → I.StaysIn h → mu.map (·.1) = mu0.map (·.1) → (∀ p ∈ mu, h.get? p.1 = some p.2) → Bd v h →
      wpAny (model prog w) A (forIn ifs true fun c r => if r = true then do let ok ← isTrue c cenv (eval c cenv); pure (ForInStep.yield ok) else pure (ForInStep.yield r))
        (fun ok s' => ∃ h' tk', s' = ⟨h', g, d, tk', os⟩ ∧ h.StaysIn h' ∧
          if ok = true then wpAny (model prog w) A (eval elt cenv) (fun y s'' => ∃ h'' tk'' mu', s'' = ⟨h'', g, d, tk'', os⟩ ∧ mu'.map (·.1) = mu.map (·.1) ∧ (∀ p ∈ mu', h''.get? p.1 = some p.2) ∧
              (∀ b o, b ∉ mu.map (·.1) → h'.get? b = some o → h''.get? b = some o) ∧
              ∀ I', I.StaysIn I' → (∀ b o, h''.get? b = some o → h'.get? b = none → I'.get? b = some o) → Inv (i + 1) (ys ++ [y]) mu' I') (notedBy (model prog w) A cenv fun e s' => R (.error e) s') s'
          else ∀ I', I.StaysIn I' → Inv (i + 1) ys mu I') (notedBy (model prog w) A cenv fun e s' => R (.error e) s') ⟨h, g, d, tk, os⟩)
    (fin : ∀ ys mu I h tk, Inv n ys mu I → I0.StaysIn I → I.StaysIn h → Fc h → h.PlainList D ys.toArray → ys.length ≤ n → mu.map (·.1) = mu0.map (·.1) → (∀ p ∈ mu, h.get? p.1 = some p.2) → (∀ b, b = D ∨ b ∈ hd ∨ b ∈ xs → I.get? b = none) →
      (∀ b o, b ≠ D → b ∉ hd → b ∉ wr → b ∉ mu0.map (·.1) → h0.get? b = some o → h.get? b = some o) → R (.ok .next) ⟨h, g, d, tk, os⟩)
    (hst : St 0 h0) (hF0 : Fc h0) (hD0 : h0.PlainList D #[]) (hI0 : I0.StaysIn h0) (hi0 : Inv 0 [] mu0 I0)
    (hhid : ∀ b, b = D ∨ b ∈ hd ∨ b ∈ wr ∨ b ∈ xs → I0.get? b = none)
    (hxs : ∀ b ∈ xs, (∃ o, h0.get? b = some o) ∧ b ≠ D ∧ b ∉ hd ∧ b ∉ wr ∧ b ∉ mu0.map (·.1))
    (hmu0 : ∀ p ∈ mu0, h0.get? p.1 = some p.2 ∧ p.1 ≠ D ∧ p.1 ∉ hd ∧ p.1 ∉ fp ∧ I0.get? p.1 = none)
    (hsz : n ≤ sizeLine) (ht : ∀ v, letOwnedTupleGo target (.ref It) v = pure () := by intro _; rfl) :
    codeAny (model prog w) A (.compLoop (.ListComp elt [⟨target, iter, ifs, 0⟩] scope pos) 0 (.ref It) (.ref D) cenv) R ⟨h0, g, d, tk0, os⟩ := by
  refine codeAny_compLoop_tests
    (fun k s' => ∃ i ys mu I h tk, s' = ⟨h, g, d, tk, os⟩ ∧ i ≤ n ∧ k = n + 1 - i ∧ St i h ∧ Fc h ∧ h.PlainList D (List.toArray ys) ∧ ys.length ≤ i ∧ I0.StaysIn I ∧ I.StaysIn h ∧
      (∀ b, b = D ∨ b ∈ hd ∨ b ∈ wr ∨ b ∈ xs → I.get? b = none) ∧ mu.map (·.1) = mu0.map (·.1) ∧ (∀ p ∈ mu, h.get? p.1 = some p.2 ∧ p.1 ≠ D ∧ p.1 ∉ hd ∧ p.1 ∉ fp ∧ I.get? p.1 = none) ∧ Inv i ys mu I ∧
      (∀ b o, b ≠ D → b ∉ hd → b ∉ wr → b ∉ mu0.map (·.1) → h0.get? b = some o → h.get? b = some o)) ?_ (n + 1)
    ⟨0, [], mu0, I0, h0, tk0, rfl, Nat.zero_le _, rfl, hst, hF0, hD0, Nat.zero_le _, fun _ _ e => e, hI0, hhid, rfl, hmu0, hi0, fun _ _ _ _ _ _ e => e⟩ ht
  rintro k s' ⟨i, ys, mu, I, h, tk, rfl, hi, rfl, hsti, hF, hD, hys, hII, hI, hhi, hmm, hmu, hinv, hkp⟩
  have hhw : ∀ b ∈ hd, b ∉ wr := fun b hb hw => hhf b hb (W.sub _ hw)
  have hDw : D ∉ wr := fun hw => hDf (W.sub _ hw)
  by_cases hlt : i < n
  · refine W.item i _ _ _ hlt hsti fun v h₁ tk₁ hP hst₁ hk₁ => ?_
    have hF₁ : Fc h₁ := hFc _ _ hF fun b o hb e => hk₁ b o (hhw b hb) e
    have hI₁ : I.StaysIn h₁ := fun b o e => hk₁ b o (fun hw => by rw [hhi b (.inr (.inr (.inl hw)))] at e; cases e) (hI b o e)
    have hD₁ : h₁.PlainList D ys.toArray := hD.at fun o e => hk₁ _ o hDw e
    have hmu₁ : ∀ p ∈ mu, h₁.get? p.1 = some p.2 := fun p hp => hk₁ _ _ (fun hw => (hmu p hp).2.2.2.1 (W.sub _ hw)) (hmu p hp).1
    refine asg v h₁ tk₁ _ hF₁ fun h₂ tk₂ hF₂ hB hk₂ => ?_
    have hI₂ : I.StaysIn h₂ := fun b o e => hk₂ b o (fun hw => by rw [hhi b (.inr (.inl hw))] at e; cases e) (hI₁ b o e)
    have hD₂ : h₂.PlainList D ys.toArray := hD₁.at fun o e => hk₂ _ o hDhd e
    have hmu₂ : ∀ p ∈ mu, h₂.get? p.1 = some p.2 := fun p hp => hk₂ _ _ (hmu p hp).2.2.1 (hmu₁ p hp)
    have hst₂ : St (i + 1) h₂ := W.frame _ _ _ hst₁ fun b hb o e => hk₂ b o (fun q => hhf b q hb) e
    refine wpAny_mono (turn i v ys mu I h₂ tk₂ hlt hP hinv hII hI₂ hmm hmu₂ hB) (fun ok s₃ h₃ => ?_) fun _ _ e => e
    obtain ⟨h₃, tk₃, rfl, hk₃, hq⟩ := h₃
    have hst₃ : St (i + 1) h₃ := W.frame _ _ _ hst₂ fun b _ o e => hk₃ b o e
    have hI₃ : I.StaysIn h₃ := fun b o e => hk₃ b o (hI₂ b o e)
    have hF₃ : Fc h₃ := hFc _ _ hF₂ fun b o _ e => hk₃ b o e
    have hD₃ : h₃.PlainList D ys.toArray := hD₂.at fun o e => hk₃ _ o e
    have hmu₃ : ∀ p ∈ mu, h₃.get? p.1 = some p.2 := fun p hp => hk₃ _ _ (hmu₂ p hp)
    cases ok with
    | false =>
      rw [if_neg Bool.false_ne_true] at hq ⊢
      exact ⟨n + 1 - (i + 1), by omega, i + 1, ys, mu, I, h₃, tk₃, rfl, hlt, rfl, hst₃, hF₃, hD₃, Nat.le_succ_of_le hys, hII, hI₃, hhi, hmm, fun p hp => ⟨hmu₃ p hp, (hmu p hp).2⟩, hq I fun _ _ e => e,
        fun b o b1 b2 b3 b4 e => hk₃ b o (hk₂ b o b2 (hk₁ b o b3 (hkp b o b1 b2 b3 b4 e)))⟩
    | true =>
      rw [if_pos rfl] at hq ⊢
      refine wpAny_mono hq (fun y s₄ h₄ => ?_) fun _ _ e => e
      obtain ⟨h₄, tk₄, mu', rfl, hmm', hmu', hk₄, hinv'⟩ := h₄
      have hDm : D ∉ mu.map (·.1) := fun hm => by obtain ⟨p, hp, e⟩ := List.mem_map.mp hm; exact (hmu p hp).2.1 e
      have hD₄ : h₄.PlainList D ys.toArray := hD₃.at fun o e => hk₄ _ o hDm e
      have mem' : ∀ p ∈ mu', ∃ q ∈ mu, q.1 = p.1 := fun p hp => by
        have : p.1 ∈ mu'.map (·.1) := List.mem_map_of_mem hp
        rw [hmm'] at this
        exact List.mem_map.mp this
      have hyl : ys.toArray.size ≤ sizeLine := by rw [List.size_toArray]; omega
      refine wpAny_list_append_plain (hsz := hyl) hD₄ fun h₅ hD₅ hs₅ => ?_
      have hst₄ : St (i + 1) h₄ := W.frame _ _ _ hst₃ fun b hb o e => hk₄ b o (fun hm => by obtain ⟨p, hp, q⟩ := List.mem_map.mp hm; exact (hmu p hp).2.2.2.1 (q ▸ hb)) e
      have hst₅ : St (i + 1) h₅ := W.frame _ _ _ hst₄ fun b hb o e => hs₅.extBut b o (fun q => hDf (q ▸ hb)) e
      have hF₄ : Fc h₄ := hFc _ _ hF₃ fun b o hb e => hk₄ b o (fun hm => by obtain ⟨p, hp, q⟩ := List.mem_map.mp hm; exact (hmu p hp).2.2.1 (q ▸ hb)) e
      have hF₅ : Fc h₅ := hFc _ _ hF₄ fun b o hb e => hs₅.extBut b o (fun q => hDhd (q ▸ hb)) e
      have hmu₅ : ∀ p ∈ mu', h₅.get? p.1 = some p.2 := fun p hp => hs₅.extBut _ _ (fun q => by obtain ⟨r, hr, e⟩ := mem' p hp; exact (hmu r hr).2.1 (e.trans q)) (hmu' p hp)
      let hide := D :: (hd ++ wr ++ (mu.map (·.1) ++ xs))
      let I' := hideAll h₅ hide
      have hII' : I.StaysIn I' := fun b o e => by
        have ne : b ∉ hide := fun hm => by
          have hn : I.get? b = none := by
            rcases List.mem_cons.mp hm with q | hm
            · exact hhi b (.inl q)
            · rcases List.mem_append.mp hm with hm | hm
              · rcases List.mem_append.mp hm with hm | hm
                · exact hhi b (.inr (.inl hm))
                · exact hhi b (.inr (.inr (.inl hm)))
              · rcases List.mem_append.mp hm with hm | hm
                · obtain ⟨p, hp, q⟩ := List.mem_map.mp hm
                  exact q ▸ (hmu p hp).2.2.2.2
                · exact hhi b (.inr (.inr (.inr hm)))
          rw [hn] at e; cases e
        have nD : b ≠ D := fun q => ne (q ▸ .head _)
        have nm : b ∉ mu.map (·.1) := fun q => ne (.tail _ (List.mem_append_right _ (List.mem_append_left _ q)))
        exact hideAll_get _ (hs₅.extBut b o nD (hk₄ b o nm (hI₃ b o e))) ne
      refine ⟨n + 1 - (i + 1), by omega, i + 1, ys ++ [y], mu', I', h₅, tk₄, rfl, hlt, rfl, hst₅, hF₅, ?_, ?_, fun b o e => hII' b o (hII b o e), fun b o e => of_hideAll _ e, ?_, hmm'.trans hmm, ?_, ?_,
        fun b o b1 b2 b3 b4 e => hs₅.extBut b o b1 (hk₄ b o (hmm ▸ b4) (hk₃ b o (hk₂ b o b2 (hk₁ b o b3 (hkp b o b1 b2 b3 b4 e)))))⟩
      · simpa using hD₅
      · rw [List.length_append, List.length_singleton]; omega
      · rintro b (q | q | q | q)
        · exact hideAll_none _ (q ▸ .head _)
        · exact hideAll_none _ (.tail _ (List.mem_append_left _ (List.mem_append_left _ q)))
        · exact hideAll_none _ (.tail _ (List.mem_append_left _ (List.mem_append_right _ q)))
        · exact hideAll_none _ (.tail _ (List.mem_append_right _ (List.mem_append_right _ q)))
      · intro p hp
        obtain ⟨r, hr, e⟩ := mem' p hp
        exact ⟨hmu₅ p hp, e ▸ (hmu r hr).2.1, e ▸ (hmu r hr).2.2.1, e ▸ (hmu r hr).2.2.2.1, hideAll_none _ (.tail _ (List.mem_append_right _ (List.mem_append_left _ (e ▸ List.mem_map_of_mem hr))))⟩
      · refine hinv' I' hII' fun b o e hn => ?_
        have nD : b ≠ D := fun q => by obtain ⟨k, hk⟩ := hD₃; rw [q, hk] at hn; cases hn
        refine hideAll_get _ (hs₅.extBut b o nD e) fun hm => ?_
        rcases List.mem_cons.mp hm with q | hm
        · exact nD q
        · rcases List.mem_append.mp hm with hm | hm
          · rcases List.mem_append.mp hm with hm | hm
            · obtain ⟨o', ho'⟩ := hFl _ hF₃ b hm
              rw [hn] at ho'; cases ho'
            · obtain ⟨o', ho'⟩ := hlive _ _ hst₃ b hm
              rw [hn] at ho'; cases ho'
          · rcases List.mem_append.mp hm with hm | hm
            · obtain ⟨p, hp, q⟩ := List.mem_map.mp hm
              have := hmu₃ p hp
              rw [q, hn] at this; cases this
            · obtain ⟨⟨o', ho'⟩, x1, x2, x3, x4⟩ := hxs b hm
              have := hk₃ b o' (hk₂ b o' x2 (hk₁ b o' x3 (hkp b o' x1 x2 x3 x4 ho')))
              rw [hn] at this; cases this
  · have hin : i = n := by omega
    subst hin
    refine W.done _ _ _ hsti fun h₁ tk₁ hk₁ => ?_
    have hF₁ : Fc h₁ := hFc _ _ hF fun b o hb e => hk₁ b o (hhw b hb) e
    have hI₁ : I.StaysIn h₁ := fun b o e => hk₁ b o (fun hw => by rw [hhi b (.inr (.inr (.inl hw)))] at e; cases e) (hI b o e)
    exact fin ys mu I h₁ tk₁ hinv hII hI₁ hF₁ (hD.at fun o e => hk₁ _ o hDw e) hys hmm (fun p hp => hk₁ _ _ (fun hw => (hmu p hp).2.2.2.1 (W.sub _ hw)) (hmu p hp).1) (fun b hb => hhi b (hb.imp id fun q => q.imp id .inr))
      fun b o b1 b2 b3 b4 e => hk₁ b o b3 (hkp b o b1 b2 b3 b4 e)
end

/-- one turn of a comprehension: the test, then the element -/
def Turn (prog : Program) (w : World) (A : Around) (E : Value → Shared → Prop) (g : Array GenState) (d : Drawn) (os : OsState) (cenv : Env) (elt : Expr) (ifs : List Expr) (Inv : List Value → Led → Heap → Prop) (ys : List Value) (mu : Led) (I h : Heap) (tk : Nat) : Prop :=
  wpAny (model prog w) A (forIn ifs true fun c r => if r = true then do let ok ← isTrue c cenv (eval c cenv); pure (ForInStep.yield ok) else pure (ForInStep.yield r))
        (fun ok s' => ∃ h' tk', s' = ⟨h', g, d, tk', os⟩ ∧ h.StaysIn h' ∧
          if ok = true then wpAny (model prog w) A (eval elt cenv) (fun y s'' => ∃ h'' tk'' mu', s'' = ⟨h'', g, d, tk'', os⟩ ∧ mu'.map (·.1) = mu.map (·.1) ∧ (∀ p ∈ mu', h''.get? p.1 = some p.2) ∧
              (∀ b o, b ∉ mu.map (·.1) → h'.get? b = some o → h''.get? b = some o) ∧
              ∀ I', I.StaysIn I' → (∀ b o, h''.get? b = some o → h'.get? b = none → I'.get? b = some o) → Inv (ys ++ [y]) mu' I') E s'
          else ∀ I', I.StaysIn I' → Inv ys mu I') E ⟨h, g, d, tk, os⟩

section
variable {prog : Program} {w : World} {A : Around} {E : Value → Shared → Prop} {g : Array GenState} {d : Drawn} {os : OsState} {env : Env} {h : Heap} {tk : Nat}

theorem comp_block {elt iter : Expr} {x : Str} {px : Pos} {ifs : List Expr} {scope : Scope} {cl : List (Str × Addr)} {pos : Pos} {It : Addr} {fp wr : List Addr} {n : Nat} {P : Nat → Value → Prop} {St : Nat → Heap → Prop} {I0 : Heap} {mu0 : Led} {xs : List Addr}
    (W : Walks prog w A It fp wr n P St) (hlive : ∀ i h, St i h → ∀ b ∈ wr, ∃ o, h.get? b = some o) (hsz : n ≤ sizeLine)
    (hcell : ∀ y ∈ scope.names, y.2 ≠ .cell) (hkind : scope.kind = .function) (hx : scope.names.lookup x = some .local)
    (hst : St 0 h) (hfp : ∀ b ∈ fp, b < h.objs.size) (Inv : Nat → List Value → Led → Heap → Prop)
    (hI0 : I0.StaysIn h) (hwr : ∀ b ∈ wr, I0.get? b = none) (hmu0 : ∀ p ∈ mu0, h.get? p.1 = some p.2 ∧ p.1 ∉ fp ∧ I0.get? p.1 = none) (hi0 : Inv 0 [] mu0 I0)
    (hxs : ∀ b ∈ xs, (∃ o, h.get? b = some o) ∧ b ∉ wr ∧ b ∉ mu0.map (·.1) ∧ I0.get? b = none)
    (turn : ∀ C i v ys mu I h₁ tk₁ E', h.objs.size ≤ C → i < n → P i v → Inv i ys mu I → I0.StaysIn I → I.StaysIn h₁ → mu.map (·.1) = mu0.map (·.1) → (∀ p ∈ mu, h₁.get? p.1 = some p.2) → (∃ m, h₁.Ns C m ∧ m x = some v) →
      Turn prog w A E' g d os (compEnvC scope cl C env) elt ifs (Inv (i + 1)) ys mu I h₁ tk₁)
    {RR : Value → Addr → Result → Shared → Prop}
    (hRR : ∀ D C ys mu I h' tk' m', Inv n ys mu I → I0.StaysIn I → I.StaysIn h' → h'.Ns C m' → h'.PlainList D ys.toArray → ys.length ≤ n → mu.map (·.1) = mu0.map (·.1) → (∀ p ∈ mu, h'.get? p.1 = some p.2) → h.get? D = none → h.get? C = none → D ≠ C →
      I.get? D = none → I.get? C = none → (∀ b ∈ xs, I.get? b = none) → (∀ b o, b ∉ wr → b ∉ mu0.map (·.1) → h.get? b = some o → h'.get? b = some o) → RR (.ref D) C (.ok .next) ⟨h', g, d, tk', os⟩) :
    wpAny (model prog w) A (newList []) (fun acc s₃ => wpAny (model prog w) A (newFunctionEnv scope env.globals cl [] env.qual none .none (some env)) (fun cenv s₄ =>
      codeAny (model prog w) A (.compStart (.ListComp elt [⟨.Name x px, iter, ifs, 0⟩] scope pos) 0 (.ref It) acc { cenv with scope := relabel scope env }) (RR acc cenv.locals) s₄) E s₃) E ⟨h, g, d, tk, os⟩ := by
  refine wpAny_newObj_type (wpAny_newFunctionEnv hcell (by intro y hy; simp at hy) (fun h₁ hns₁ hsb₁ => ?_) hkind)
  dsimp only at hns₁ hsb₁ ⊢
  generalize hH2 : h.push { cls := .type "list", dict := none, data := .seq ([] : List Value).toArray } = H2 at hns₁ hsb₁ ⊢
  have hC : H2.objs.size = h.objs.size + 1 := by rw [← hH2, Heap.size_push]
  have hDC : h.objs.size ≠ H2.objs.size := by rw [hC]; exact Nat.ne_of_lt (Nat.lt_succ_self _)
  have below : ∀ b, b < h.objs.size → b ≠ H2.objs.size ∧ b ≠ h.objs.size := fun b hb => ⟨by rw [hC]; exact Nat.ne_of_lt (Nat.lt_succ_of_lt hb), Nat.ne_of_lt hb⟩
  have hDf : h.objs.size ∉ fp := fun hm => Nat.lt_irrefl _ (hfp _ hm)
  have hCf : H2.objs.size ∉ fp := fun hm => by have := hfp _ hm; rw [hC] at this; exact Nat.lt_irrefl _ (Nat.lt_of_succ_lt this)
  have old : ∀ b o, h.get? b = some o → h₁.get? b = some o := fun b o e => hsb₁.extBut b o (below b (Heap.lt_size e)).1 (Heap.get?_push_of_some _ (hH2 ▸ Heap.get?_push_of_some _ e))
  have hacc : h₁.PlainList h.objs.size #[] := ⟨_, hsb₁.extBut _ _ hDC (Heap.get?_push_of_some _ (hH2 ▸ Heap.get?_push_size _ rfl))⟩
  have hst₁ : St 0 h₁ := W.frame _ _ _ hst fun b _ o e => old b o e
  have fresh : ∀ a, h.objs.size ≤ a → h.get? a = none := fun a ha => isNone_of fun o' e => absurd (Heap.lt_size e) (Nat.not_lt.mpr ha)
  have freshI : ∀ a, h.objs.size ≤ a → I0.get? a = none := fun a ha => isNone_of fun o' e => by have := hI0 _ _ e; rw [fresh a ha] at this; cases this
  have hCle : h.objs.size ≤ H2.objs.size := by rw [hC]; exact Nat.le_succ _
  have loop : ∀ (tk₁ : Nat), codeAny (model prog w) A (.compLoop (.ListComp elt [⟨.Name x px, iter, ifs, 0⟩] scope pos) 0 (.ref It) (.ref h.objs.size) (compEnvC scope cl H2.objs.size env))
        (RR (.ref h.objs.size) H2.objs.size) ⟨h₁, g, d, tk₁, os⟩ := fun tk₁ => by
    refine comp_core (cenv := compEnvC scope cl H2.objs.size env) (hd := [H2.objs.size]) (D := h.objs.size) (I0 := I0) (mu0 := mu0) (xs := xs) W hlive (fun h => ∃ m, h.Ns H2.objs.size m) (fun v h => ∃ m, h.Ns H2.objs.size m ∧ m x = some v) Inv
      ?_ ?_ ?_ hDf ?_ ?_ ?_ ?_ hst₁ ⟨_, hns₁⟩ hacc (fun b o e => old b o (hI0 b o e)) hi0 ?_ ?_ ?_ hsz
    · rintro h h' ⟨m, o, es, ep, ho, r⟩ hk
      exact ⟨m, o, es, ep, hk _ _ (.head _) ho, r⟩
    · rintro h ⟨m, o, es, ep, ho, r⟩ b hb
      rw [List.mem_singleton.mp hb]; exact ⟨o, ho⟩
    · exact fun hm => hDC (List.mem_singleton.mp hm)
    · exact fun b hb hf => hCf (List.mem_singleton.mp hb ▸ hf)
    · rintro v h₂ tk₂ Q ⟨m, hn⟩ hQ
      refine wpAny_assign_Name (wpAny_storeName_local (env := compEnvC scope cl H2.objs.size env) (lookup_relabel_local hx) hn (fun h' hn' hs' => ?_) (by show ((relabel scope env).kind == .class || ((relabel scope env).kind == .module && _)) = false; rw [show (relabel scope env).kind = .function from hkind]; rfl))
      exact hQ h' _ ⟨_, hn'⟩ ⟨_, hn', by simp⟩ fun b o hb e => hs'.extBut b o (fun q => hb (q ▸ .head _)) e
    · intro i v ys mu I h₂ tk₂ hi hP hv hII hI hm hmu hB
      exact turn _ i v ys mu I h₂ tk₂ _ hCle hi hP hv hII hI hm hmu hB
    · rintro ys mu I h₂ tk₂ hv hII hI ⟨m, hn⟩ hD hl hm hmu hh hk
      refine hRR _ _ ys mu I h₂ tk₂ m hv hII hI hn hD hl hm hmu (fresh _ (Nat.le_refl _)) (fresh _ hCle) hDC (hh _ (.inl rfl)) (hh _ (.inr (.inl (.head _)))) (fun b hb => hh b (.inr (.inr hb))) fun b o h1 h2 e => ?_
      exact hk b o (below b (Heap.lt_size e)).2 (fun q => (below b (Heap.lt_size e)).1 (List.mem_singleton.mp q)) h1 h2 (old b o e)
    · rintro b (q | q | q | q)
      · exact freshI _ (Nat.le_of_eq q.symm)
      · rw [List.mem_singleton.mp q]; exact freshI _ hCle
      · exact hwr b q
      · exact (hxs b q).2.2.2
    · intro b hb
      obtain ⟨⟨o, ho⟩, x1, x2, x3⟩ := hxs b hb
      exact ⟨⟨o, old b o ho⟩, (below b (Heap.lt_size ho)).2, fun q => (below b (Heap.lt_size ho)).1 (List.mem_singleton.mp q), x1, x2⟩
    · intro p hp
      have k := hmu0 p hp
      have b := below _ (Heap.lt_size k.1)
      exact ⟨old _ _ k.1, b.2, fun q => b.1 (List.mem_singleton.mp q), k.2⟩
  exact codeAny_compStart_list (loop _) (W.self 0 _ _ _ hst₁ (loop _))

/-- what is wanted of the source and of the turns -/
structure CompSrc (prog : Program) (w : World) (A : Around) (g : Array GenState) (d : Drawn) (os : OsState) (env : Env) (elt : Expr) (ifs : List Expr) (x : Str) (scope : Scope) (cl : List (Str × Addr)) (it : Value) (h : Heap) (n : Nat) (Inv : Nat → List Value → Led → Heap → Prop) (I0 : Heap) (mu0 : Led) (wr xs : List Addr) : Prop where
  intro ::
  all : ∃ It fp P St, it = .ref It ∧ Walks prog w A It fp wr n P St ∧ (∀ i h, St i h → ∀ b ∈ wr, ∃ o, h.get? b = some o) ∧ n ≤ sizeLine ∧ St 0 h ∧ (∀ b ∈ fp, b < h.objs.size) ∧ I0.StaysIn h ∧ (∀ b ∈ wr, I0.get? b = none) ∧
    (∀ p ∈ mu0, h.get? p.1 = some p.2 ∧ p.1 ∉ fp ∧ I0.get? p.1 = none) ∧ Inv 0 [] mu0 I0 ∧ (∀ b ∈ xs, (∃ o, h.get? b = some o) ∧ b ∉ wr ∧ b ∉ mu0.map (·.1) ∧ I0.get? b = none) ∧
    (∀ C i v ys mu I h₁ tk₁ E', h.objs.size ≤ C → i < n → P i v → Inv i ys mu I → I0.StaysIn I → I.StaysIn h₁ → mu.map (·.1) = mu0.map (·.1) → (∀ p ∈ mu, h₁.get? p.1 = some p.2) → (∃ m, h₁.Ns C m ∧ m x = some v) →
      Turn prog w A E' g d os (compEnvC scope cl C env) elt ifs (Inv (i + 1)) ys mu I h₁ tk₁)

theorem comp_expr {elt iter : Expr} {x : Str} {px : Pos} {ifs : List Expr} {scope : Scope} {cl : List (Str × Addr)} {pos : Pos} {Q : Value → Shared → Prop} {s : Shared}
    (hclos : closureFor scope env = pure cl) (hcell : ∀ y ∈ scope.names, y.2 ≠ .cell) (hkind : scope.kind = .function)
    (hnames : ∀ y ∈ scope.names, y.2 = .local → scope.names.lookup y.1 = some .local) (hx : scope.names.lookup x = some .local)
    (hs : ∀ x, foldedSetIterable iter env x = pure x)
    (h : wpAny (model prog w) A (eval iter env) (fun xv s₁ => wpAny (model prog w) A (pyIter xv) (fun it s₂ => ∃ h n Inv I0 mu0 wr xs tk, s₂ = ⟨h, g, d, tk, os⟩ ∧ CompSrc prog w A g d os env elt ifs x scope cl it h n Inv I0 mu0 wr xs ∧
      (∀ D ys mu I h' tk', Inv n ys mu I → I0.StaysIn I → I.StaysIn h' → h'.PlainList D ys.toArray → ys.length ≤ n → mu.map (·.1) = mu0.map (·.1) → (∀ p ∈ mu, h'.get? p.1 = some p.2) → h.get? D = none → I.get? D = none → (∀ b ∈ xs, I.get? b = none) →
        (∀ b o, b ∉ wr → b ∉ mu0.map (·.1) → h.get? b = some o → h'.get? b = some o) → Q (.ref D) ⟨h', g, d, tk', os⟩)) E s₁) E s) :
    wpAny (model prog w) A (eval (.ListComp elt [⟨.Name x px, iter, ifs, 0⟩] scope pos) env) Q E s := by
  rw [eval_ListComp]
  refine wpAny_comprehension_free (use := none) rfl hs hclos hkind hnames (wpAny_mono h (fun xv s₁ h₁ => wpAny_mono h₁ (fun it s₂ h₂ => ?_) fun _ _ e => e) fun _ _ e => e)
  obtain ⟨h, n, Inv, I0, mu0, wr, xs, tk, rfl, ⟨It, fp, P, St, rfl, W, hlive, hsz, hst, hfp, hI0, hwr, hmu0, hi0, hxs, turn⟩, hQ⟩ := h₂
  refine comp_block (RR := fun acc C => compPost (model prog w) A E none Q acc C) W hlive hsz hcell hkind hx hst hfp Inv hI0 hwr hmu0 hi0 hxs turn ?_
  intro D C ys mu I h' tk' m' hv hII hI hn hD hl hm hmu fD fC hDC iD iC iX hk
  refine ⟨m', hn, fun h'' hs'' => ?_⟩
  refine hQ D ys mu I h'' tk' hv hII (fun b o e => hs''.extBut b o (fun q => by rw [q, iC] at e; cases e) (hI b o e)) (hD.at fun o e => hs''.extBut _ o hDC e) hl hm (fun p hp => hs''.extBut _ _ (fun q => ?_) (hmu p hp)) fD iD iX (fun b o h1 h2 e => hs''.extBut b o (fun q => by rw [q, fC] at e; cases e) (hk b o h1 h2 e))
  have : p.1 ∈ mu.map (·.1) := List.mem_map_of_mem hp
  rw [hm] at this
  obtain ⟨r, hr, e⟩ := List.mem_map.mp this
  have := (hmu0 r hr).1
  rw [e, q, fC] at this; cases this

theorem comp_assign {elt iter : Expr} {x y : Str} {px py : Pos} {ifs : List Expr} {scope : Scope} {cl : List (Str × Addr)} {pos spos : Pos} {Q : Flow → Shared → Prop} {s : Shared}
    (hsw : swapsWith (.ListComp elt [⟨.Name x px, iter, ifs, 0⟩] scope pos) (some (.Name y py)) spos.line env = pure true)
    (hclos : closureFor scope env = pure cl) (hcell : ∀ z ∈ scope.names, z.2 ≠ .cell) (hkind : scope.kind = .function)
    (hnames : ∀ z ∈ scope.names, z.2 = .local → scope.names.lookup z.1 = some .local) (hx : scope.names.lookup x = some .local)
    (hy : env.kindOf y = some .local) (hek : env.scope.kind = .function)
    (hs : ∀ x, foldedSetIterable iter env x = pure x)
    (h : wpAny (model prog w) A (eval iter env) (fun xv s₁ => wpAny (model prog w) A (pyIter xv) (fun it s₂ => ∃ h n Inv I0 mu0 wr xs tk m, s₂ = ⟨h, g, d, tk, os⟩ ∧ CompSrc prog w A g d os env elt ifs x scope cl it h n Inv I0 mu0 wr xs ∧
      env.locals ∈ xs ∧ h.Ns env.locals m ∧
      (∀ D ys mu I h' tk', Inv n ys mu I → I0.StaysIn I → I.StaysIn h' → h'.PlainList D ys.toArray → ys.length ≤ n → mu.map (·.1) = mu0.map (·.1) → (∀ p ∈ mu, h'.get? p.1 = some p.2) → h.get? D = none → I.get? D = none → (∀ b ∈ xs, I.get? b = none) →
        (∀ b o, b ≠ env.locals → b ∉ wr → b ∉ mu0.map (·.1) → h.get? b = some o → h'.get? b = some o) → h'.Ns env.locals (fun z => if z = y then some (.ref D) else m z) → Q .next ⟨h', g, d, tk', os⟩)) E s₁) E s) :
    wpAny (model prog w) A (exec (.Assign [.Name y py] (.ListComp elt [⟨.Name x px, iter, ifs, 0⟩] scope pos) spos) env) Q E s := by
  rw [exec_Assign_Name_used _ _ _ _ hsw]
  refine wpAny_bind (wpAny_standAt (wpAny_bind ?_))
  show wpAny _ A (do let _ ← comprehension (.ListComp elt [⟨.Name x px, iter, ifs, 0⟩] scope pos) scope env _ (newList []) false (eval iter env) (some (assign (.Name y py) env))) _ _ s
  refine wpAny_bind (wpAny_mono (wpAny_comprehension_free (use := some (assign (.Name y py) env)) (Q := fun _ s' => Q .next s') rfl hs hclos hkind hnames
    (wpAny_mono h (fun xv s₁ h₁ => wpAny_mono h₁ (fun it s₂ h₂ => ?_) fun _ _ e => e) fun _ _ e => e)) (fun _ s' hq => wpAny_pure (wpAny_pure hq)) fun _ _ e => e)
  obtain ⟨h, n, Inv, I0, mu0, wr, xs, tk, m, rfl, ⟨It, fp, P, St, rfl, W, hlive, hsz, hst, hfp, hI0, hwr, hmu0, hi0, hxs, turn⟩, hLx, hn, hQ⟩ := h₂
  refine comp_block (RR := fun acc C => compPost (model prog w) A E (some (assign (.Name y py) env)) (fun _ s' => Q .next s') acc C) W hlive hsz hcell hkind hx hst hfp Inv hI0 hwr hmu0 hi0 hxs turn ?_
  intro D C ys mu I h' tk' m' hv hII hI hnC hD hl hm hmu fD fC hDC iD iC iX hk
  obtain ⟨⟨oL, hoL⟩, hLw, hLm, hLI⟩ := hxs _ hLx
  have hnL : h'.Ns env.locals m := hn.at' fun o e => hk _ _ hLw hLm e
  have hLC : env.locals ≠ C := by rintro q; rw [q, fC] at hoL; cases hoL
  have hLD : D ≠ env.locals := by rintro q; rw [← q, fD] at hoL; cases hoL
  have muC : ∀ p ∈ mu, p.1 ≠ C ∧ p.1 ≠ env.locals := fun p hp => by
    have this : p.1 ∈ mu.map (·.1) := List.mem_map_of_mem hp
    rw [hm] at this
    refine ⟨fun q => ?_, fun q => hLm (q ▸ this)⟩
    obtain ⟨r, hr, e⟩ := List.mem_map.mp this
    have := (hmu0 r hr).1
    rw [e, q, fC] at this; cases this
  show wpAny _ A (assign (.Name y py) env (.ref D)) _ _ _
  refine wpAny_assign_Name (wpAny_storeName_local hy hnL (fun h₂ hn₂ hs₂ => ?_) (by rw [hek]; rfl))
  refine ⟨m', hnC.sameBut hs₂ (Ne.symm hLC), fun h₃ hs₃ => ?_⟩
  have key : ∀ b o, b ≠ env.locals → b ≠ C → h'.get? b = some o → h₃.get? b = some o := fun b o b1 b2 e => hs₃.extBut b o b2 (hs₂.extBut b o b1 e)
  refine hQ D ys mu I h₃ _ hv hII (fun b o e => key b o (fun q => by rw [q, iX _ hLx] at e; cases e) (fun q => by rw [q, iC] at e; cases e) (hI b o e)) (hD.at fun o e => key _ o hLD hDC e) hl hm (fun p hp => key _ _ (muC p hp).2 (muC p hp).1 (hmu p hp)) fD iD iX
    (fun b o h0 h1 h2 e => key b o h0 (fun q => by rw [q, fC] at e; cases e) (hk b o h1 h2 e)) (hn₂.sameBut hs₃ hLC)
end

theorem look_hit {a : Str} {u e : Option Value} : (if a = a then u else e) = u := if_pos rfl
theorem look_skip {a b : Str} {u e r : Option Value} (h : a ≠ b) (k : e = r) : (if a = b then u else e) = r := (if_neg h).trans k

theorem Fm.weak {I I₂ h : Heap} {L : Addr} {m : Str → Option Value} {mu : Led} (F : Fm I₂ L h m mu) (k : I.StaysIn I₂) : Fm I L h m mu :=
  ⟨F.ns, fun b o e => F.keep b o (k b o e), isNone_of (fun o e => (by have := k _ _ e; rw [F.out] at this; cases this)),
    fun p hp => ⟨(F.mus p hp).1, (F.mus p hp).2.1, isNone_of (fun o e => (by have := k _ _ e; rw [(F.mus p hp).2.2] at this; cases this))⟩, F.nd⟩
theorem Fm.tail {I h : Heap} {L : Addr} {m : Str → Option Value} {p : Addr × Obj} {mu : Led} (F : Fm I L h m (p :: mu)) : Fm I L h m mu :=
  ⟨F.ns, F.keep, F.out, fun q hq => F.mus q (.tail _ hq), (List.nodup_cons.mp F.nd).2⟩
/-- one thing that is none of the frame's is turned -/
theorem Fm.other {I h h' : Heap} {L : Addr} {m : Str → Option Value} {mu : Led} {wr : List Addr} (F : Fm I L h m mu) (k : ∀ b o, b ∉ wr → h.get? b = some o → h'.get? b = some o)
    (hL : L ∉ wr) (hI : ∀ b ∈ wr, I.get? b = none) (hm : ∀ p ∈ mu, p.1 ∉ wr) : Fm I L h' m mu :=
  ⟨F.ns.at' fun o e => k _ o hL e, fun b o e => k b o (fun q => by rw [hI b q] at e; cases e) (F.keep b o e), F.out, fun p hp => ⟨k _ _ (hm p hp) (F.mus p hp).1, (F.mus p hp).2⟩, F.nd⟩
theorem Fm.nd_head {I h : Heap} {L : Addr} {m : Str → Option Value} {p : Addr × Obj} {mu : Led} (F : Fm I L h m (p :: mu)) : ∀ q ∈ mu, q.1 ≠ p.1 := fun q hq e =>
  (List.nodup_cons.mp F.nd).1 (List.mem_map.mpr ⟨q, hq, e⟩)

section
variable {prog : Program} {w : World} {A : Around} {R : Result → Shared → Prop} {g : Array GenState} {d : Drawn} {os : OsState} {env : Env}

theorem forW {x : Str} {px : Pos} {body : List Stmt} {It : Addr} {fp wr : List Addr} {n : Nat} {P : Nat → Value → Prop} {St : Nat → Heap → Prop} {h : Heap} {tk : Nat}
    (W : Walks prog w A It fp wr n P St) (Inv : Nat → Heap → Prop) (hst : St 0 h) (h0 : Inv 0 h)
    (stab : ∀ i h h', Inv i h → (∀ b o, b ∉ wr → h.get? b = some o → h'.get? b = some o) → Inv i h')
    (turn : ∀ i v h tk E', i < n → P i v → Inv i h → St (i + 1) h → wpAny (model prog w) A (storeName env x v) (fun _ s₂ => wpAny (model prog w) A (execs body env) (fun f s₃ => match f with
      | .next | .cont => ∃ h' tk', s₃ = ⟨h', g, d, tk', os⟩ ∧ Inv (i + 1) h' ∧ ∀ b ∈ fp, ∀ o, h.get? b = some o → h'.get? b = some o
      | .brk => R (.ok .next) s₃ | .ret v => R (.ok (.ret v)) s₃) E' s₂) E' ⟨h, g, d, tk, os⟩)
    (fin : ∀ h tk, Inv n h → R (.ok .next) ⟨h, g, d, tk, os⟩)
    (ht : ∀ v, letOwnedTupleGo (.Name x px) (.ref It) v = pure () := by intro _; rfl) :
    codeAny (model prog w) A (.forLoop (.Name x px) (.ref It) body [] env) R ⟨h, g, d, tk, os⟩ := by
  refine codeAny_forLoop (fun k s' => ∃ i h tk, s' = ⟨h, g, d, tk, os⟩ ∧ i ≤ n ∧ k = n + 1 - i ∧ St i h ∧ Inv i h) ?_ (n + 1) ⟨0, h, tk, rfl, Nat.zero_le _, rfl, hst, h0⟩ ht
  rintro k s' ⟨i, h, tk, rfl, hi, rfl, hsti, hinv⟩
  by_cases hlt : i < n
  · refine W.item i _ _ _ hlt hsti fun v h₁ tk₁ hP hst₁ hk₁ => ?_
    refine wpAny_assign_Name (wpAny_mono (turn i v h₁ tk₁ _ hlt hP (stab i _ _ hinv hk₁) hst₁) (fun _ s₂ h₂ => wpAny_mono h₂ (fun f s₃ h₃ => ?_) fun _ _ e => e) fun _ _ e => e)
    cases f with
    | next => obtain ⟨h', tk', rfl, hv, hf⟩ := h₃; exact ⟨n + 1 - (i + 1), by omega, i + 1, h', tk', rfl, hlt, rfl, W.frame _ _ _ hst₁ hf, hv⟩
    | cont => obtain ⟨h', tk', rfl, hv, hf⟩ := h₃; exact ⟨n + 1 - (i + 1), by omega, i + 1, h', tk', rfl, hlt, rfl, W.frame _ _ _ hst₁ hf, hv⟩
    | brk => exact h₃
    | ret v => exact h₃
  · have hin : i = n := by omega
    subst hin
    exact W.done _ _ _ hsti fun h₁ tk₁ hk₁ => wpAny_execs_nil (fin h₁ tk₁ (stab i _ _ hinv hk₁))

theorem bb_range : bootBuiltins (Str.ofString "range") = some (.type "range") := by kernel_rfl
theorem bb_len : bootBuiltins (Str.ofString "len") = some (.builtin "len") := by kernel_rfl
theorem bb_tuple : bootBuiltins (Str.ofString "tuple") = some (.type "tuple") := by kernel_rfl
theorem bb_list : bootBuiltins (Str.ofString "list") = some (.type "list") := by kernel_rfl
theorem bb_getattr : bootBuiltins (Str.ofString "getattr") = some (.builtin "getattr") := by kernel_rfl
theorem bb_super : bootBuiltins (Str.ofString "super") = some (.type "super") := by kernel_rfl

theorem stays_push (h : Heap) (o : Obj) : h.StaysIn (h.push o) := fun _ _ e => Heap.get?_push_of_some _ e

theorem iter_range_obj {E : Value → Shared → Prop} {Q : Value → Shared → Prop} {h : Heap} {tk : Nat} {r : Addr} {a b : Int} {t u v : Tok} {n : Nat} (hr : IsRange h r a b 1 t u v)
    (hn : (n : Int) = Builtin.Range.rangeSize a b 1) (hsm : Builtin.Range.small a b 1 = true)
    (hQ : ∀ It h', h.StaysIn h' → h.objs.size ≤ It → IsRangeIter h' It (a + ((0 : Nat) : Int) * 1) ((n : Int) - ((0 : Nat) : Int)) 1 → Q (.ref It) ⟨h', g, d, tk, os⟩) :
    wpAny (model prog w) A (pyIter (.ref r)) Q E ⟨h, g, d, tk, os⟩ := by
  refine wpAny_pyIter_range hr hsm (hQ _ _ (stays_push _ _) (Nat.le_refl _) ?_)
  have e1 : (a + ((0 : Nat) : Int) * 1) = a := by simp
  have e2 : ((n : Int) - ((0 : Nat) : Int)) = Builtin.Range.rangeSize a b 1 := by rw [hn]; simp
  rw [e1, e2]
  exact Heap.get?_push_size _ rfl
theorem iter_range2 {E : Value → Shared → Prop} {Q : Value → Shared → Prop} {h : Heap} {tk : Nat} {a b : Int} {t u : Tok} {n : Nat}
    (hn : (n : Int) = Builtin.Range.rangeSize a b 1) (hsm : Builtin.Range.small a b 1 = true)
    (hQ : ∀ It h' tk', h.StaysIn h' → h.objs.size ≤ It → IsRangeIter h' It (a + ((0 : Nat) : Int) * 1) ((n : Int) - ((0 : Nat) : Int)) 1 → Q (.ref It) ⟨h', g, d, tk', os⟩) :
    wpAny (model prog w) A (call (.type "range") [.int a t, .int b u]) (fun x s₁ => wpAny (model prog w) A (pyIter x) Q E s₁) E ⟨h, g, d, tk, os⟩ := by
  refine call_range_2 ?_
  dsimp only
  refine iter_range_obj (IsRange.new ..) hn hsm fun It h' k l r => hQ It h' _ (fun b o e => k b o (stays_push _ _ b o e)) (Nat.le_trans (by rw [Heap.size_push]; omega) l) r
theorem iter_range1 {E : Value → Shared → Prop} {Q : Value → Shared → Prop} {h : Heap} {tk : Nat} {b : Int} {u : Tok} {n : Nat}
    (hn : (n : Int) = Builtin.Range.rangeSize 0 b 1) (hsm : Builtin.Range.small 0 b 1 = true)
    (hQ : ∀ It h' tk', h.StaysIn h' → h.objs.size ≤ It → IsRangeIter h' It (0 + ((0 : Nat) : Int) * 1) ((n : Int) - ((0 : Nat) : Int)) 1 → Q (.ref It) ⟨h', g, d, tk', os⟩) :
    wpAny (model prog w) A (call (.type "range") [.int b u]) (fun x s₁ => wpAny (model prog w) A (pyIter x) Q E s₁) E ⟨h, g, d, tk, os⟩ := by
  refine call_range_1 ?_
  dsimp only
  refine iter_range_obj (IsRange.new ..) hn hsm fun It h' k l r => hQ It h' _ (fun b o e => k b o (stays_push _ _ b o e)) (Nat.le_trans (by rw [Heap.size_push]; omega) l) r
theorem iter_list {E : Value → Shared → Prop} {Q : Value → Shared → Prop} {h : Heap} {tk : Nat} {l : Addr} {items : Array Value} (hl : h.IsList l items)
    (hQ : ∀ It h', h.StaysIn h' → h.objs.size ≤ It → l ≠ It → h'.IsListIter It l 0 → h'.IsList l items → Q (.ref It) ⟨h', g, d, tk, os⟩) :
    wpAny (model prog w) A (pyIter (.ref l)) Q E ⟨h, g, d, tk, os⟩ := by
  refine wpAny_pyIter_list hl (hQ _ _ (stays_push _ _) (Nat.le_refl _) ?_ ⟨_, Heap.get?_push_size _ rfl, rfl, rfl⟩ ?_)
  · obtain ⟨o, ho, _⟩ := hl; exact Nat.ne_of_lt (Heap.lt_size ho)
  · obtain ⟨o, ho, r⟩ := hl; exact ⟨o, stays_push _ _ _ _ ho, r⟩
theorem iter_str {E : Value → Shared → Prop} {Q : Value → Shared → Prop} {h : Heap} {tk : Nat} {x : Str} {t : Tok}
    (hQ : ∀ It h' (St : Nat → Heap → Prop), h.StaysIn h' → h.objs.size ≤ It → (∀ A' : Around, A'.handled = none → Walks prog w A' It [It] [It] x.cps.size (SignAt x) St) → (∀ i h, St i h → ∃ o, h.get? It = some o) → St 0 h' → Q (.ref It) ⟨h', g, d, tk, os⟩) :
    wpAny (model prog w) A (pyIter (.str x t)) Q E ⟨h, g, d, tk, os⟩ := by
  cases ha : x.cps.all (· < 128)
  · exact wpAny_pyIter_wide ha (hQ _ _ _ (stays_push _ _) (Nat.le_refl _) (fun A' hA => Walks.strWide hA _ x t) (fun i h ⟨o, ho, _⟩ => ⟨o, ho⟩) ⟨_, Heap.get?_push_size _ rfl, rfl, rfl⟩)
  · exact wpAny_pyIter_ascii ha (hQ _ _ _ (stays_push _ _) (Nat.le_refl _) (fun A' hA => Walks.strAscii hA _ x t) (fun i h ⟨o, ho, _⟩ => ⟨o, ho⟩) ⟨_, Heap.get?_push_size _ rfl, rfl, rfl⟩)
end

/-- every object but the frame's -/
def allOf (h : Heap) (L : Addr) : Led := (List.range h.objs.size).filterMap fun a => if a = L then none else (h.get? a).map fun o => (a, o)
theorem mem_allOf {h : Heap} {L a : Addr} {o : Obj} : (a, o) ∈ allOf h L ↔ h.get? a = some o ∧ a ≠ L := by
  unfold allOf
  rw [List.mem_filterMap]
  constructor
  · rintro ⟨b, hb, e⟩
    by_cases q : b = L
    · rw [if_pos q] at e; cases e
    · rw [if_neg q] at e
      obtain ⟨o', ho, e⟩ := Option.map_eq_some_iff.mp e
      cases e
      exact ⟨ho, q⟩
  · rintro ⟨e, q⟩
    exact ⟨a, List.mem_range.mpr (Heap.lt_size e), by rw [if_neg q, e]; rfl⟩
def noHeap : Heap := { objs := #[] }
theorem noHeap_get (a : Addr) : noHeap.get? a = none := isNone_of fun o e => absurd (Heap.lt_size e) (Nat.not_lt_zero _)
theorem frAll {h : Heap} {L : Addr} {m : Str → Option Value} (hn : h.Ns L m) : Fr noHeap L h m := ⟨hn, (fun b o e => (by rw [noHeap_get] at e; cases e)), Nat.zero_le _⟩
theorem newsAll (h : Heap) (L : Addr) : News noHeap L h (allOf h L) := fun p hp => by
  obtain ⟨a, o⟩ := p
  have := mem_allOf.mp hp
  exact ⟨this.1, this.2, noHeap_get _⟩
theorem keptAll {h h' : Heap} {L : Addr} {l : Led} (N : News noHeap L h' l) (hs : ∀ p ∈ allOf h L, p ∈ l) : ∀ b o, b ≠ L → h.get? b = some o → h'.get? b = some o :=
  fun b o hb e => (N _ (hs (b, o) (mem_allOf.mpr ⟨e, hb⟩))).1
theorem Fm.kept {I h h' : Heap} {L : Addr} {m m' : Str → Option Value} {mu : Led} (F : Fm I L h m mu) (hn : h'.Ns L m') (k : ∀ b o, b ≠ L → h.get? b = some o → h'.get? b = some o) : Fm I L h' m' mu :=
  ⟨hn, fun b o e => k b o (fun q => by rw [q, F.out] at e; cases e) (F.keep b o e), F.out, fun p hp => ⟨k _ _ (F.mus p hp).2.1 (F.mus p hp).1, (F.mus p hp).2⟩, F.nd⟩
theorem Fm.fr {I h : Heap} {L : Addr} {m : Str → Option Value} {mu : Led} (F : Fm I L h m mu) (ab : I.objs.size ≤ L) : Fr I L h m := ⟨F.ns, F.keep, ab⟩
theorem Fm.sub {I h : Heap} {L : Addr} {m : Str → Option Value} {mu mu' : Led} (F : Fm I L h m mu) (s : mu'.Sublist mu) : Fm I L h m mu' :=
  ⟨F.ns, F.keep, F.out, fun p hp => F.mus p (s.subset hp), F.nd.sublist (s.map _)⟩
/-- a new object of the frame's is known -/
theorem Fm.add {I h : Heap} {L a : Addr} {o : Obj} {m : Str → Option Value} {mu : Led} (F : Fm I L h m mu) (ho : h.get? a = some o) (hL : a ≠ L) (hI : I.get? a = none) (hm : a ∉ mu.map (·.1)) : Fm I L h m ((a, o) :: mu) :=
  ⟨F.ns, F.keep, F.out, fun p hp => by rcases List.mem_cons.mp hp with rfl | hp; exact ⟨ho, hL, hI⟩; exact F.mus p hp, by rw [List.map_cons]; exact List.nodup_cons.mpr ⟨hm, F.nd⟩⟩

theorem Fm.new {I h h' : Heap} {L T : Addr} {o : Obj} {m : Str → Option Value} {mu : Led} (F : Fm I L h m mu) (k : h.StaysIn h') (hn : h.get? T = none) (ho : h'.get? T = some o) : Fm I L h' m ((T, o) :: mu) :=
  (F.pure k).add ho (fun q => by obtain ⟨oL, _, _, hL, _⟩ := F.ns; rw [← q, hn] at hL; cases hL) (isNone_of fun o' e => by have := F.keep _ _ e; rw [hn] at this; cases this)
    fun hm => by obtain ⟨p, hp, e⟩ := List.mem_map.mp hm; have := (F.mus p hp).1; rw [e, hn] at this; cases this
abbrev listO (ys : List Value) (k : Nat) : Obj := ⟨.type "list", none, .seq ys.toArray k, #[]⟩
abbrev tupO (ys : List Value) (k : Nat) : Obj := ⟨.type "tuple", none, .seq ys.toArray k, #[]⟩
theorem none_size (h : Heap) : h.get? h.objs.size = none := isNone_of fun _ e => absurd (Heap.lt_size e) (Nat.lt_irrefl _)

section
variable {M : Model} {A : Around} {E : Value → Shared → Prop} {s : Shared} {env : Env}
theorem tupleNew {elts : List Expr} {k : Nat} {pos : Pos} {Q : Value → Shared → Prop}
    (h : wpAny M A (spliced (backTo pos (starEach elts env))) (fun vs s₁ => vs.length ≤ sizeLine ∧ ∀ T h', s₁.heap.StaysIn h' → s₁.heap.get? T = none → h'.get? T = some (tupO vs 0) → Q (.ref T) { s₁ with heap := h' }) E s) :
    wpAny M A (eval (.Tuple elts k pos) env) Q E s :=
  wpAny_Tuple (wpAny_mono h (fun vs s₁ h₁ => ⟨h₁.1, h₁.2 _ _ (stays_push _ _) (none_size _) (Heap.get?_push_size _ rfl)⟩) fun _ _ e => e)
theorem listNew {elts : List Expr} {pos : Pos} {Q : Value → Shared → Prop}
    (h : wpAny M A (spliced (backTo pos (starEach elts env))) (fun vs s₁ => vs.length ≤ sizeLine ∧ ∀ T h', s₁.heap.StaysIn h' → s₁.heap.get? T = none → h'.get? T = some (listO vs 0) → Q (.ref T) { s₁ with heap := h' }) E s) :
    wpAny M A (eval (.List elts pos) env) Q E s :=
  wpAny_List (wpAny_mono h (fun vs s₁ h₁ => ⟨h₁.1, h₁.2 _ _ (stays_push _ _) (none_size _) (Heap.get?_push_size _ rfl)⟩) fun _ _ e => e)
end
section
variable {prog : Program} {w : World} {A : Around} {E : Value → Shared → Prop} {s : Shared} {I : Heap} {L : Addr} {m : Str → Option Value} {mu : Led}
theorem unpackT {t : Addr} {vs : List Value} {k n : Nat} {Q : List Value → Shared → Prop} (hh : A.handled = none) (ht : s.heap.get? t = some (tupO vs k)) (hn : n = vs.length) (h : ∀ h', s.heap.StaysIn h' → Q vs { s with heap := h' }) :
    wpAny (model prog w) A (unpackItems (.ref t) n none) Q E s := by
  subst hn
  have := unpackItems_tuple (prog := prog) (w := w) (E := E) (Q := Q) (items := vs.toArray) hh ⟨_, ht, rfl, _, rfl⟩ fun h' he => h h' fun b o e => he b o (Nat.ne_of_lt (Heap.lt_size e)) e
  simpa using this
theorem setItemL {l : Addr} {xs : List Value} {n : Nat} {k : Int} {t : Tok} {v : Value} {Q : Unit → Shared → Prop} (hl : s.heap.get? l = some (listO xs n)) (h0 : 0 ≤ k) (hfit : k < 2 ^ 63) (hn : k < xs.length)
    (h : ∀ h' n', Heap.SameBut l s.heap h' → h'.get? l = some (listO (xs.set k.toNat v) n') → Q () { s with heap := h' }) : wpAny (model prog w) A (setItem (.ref l) (.int k t) v) Q E s := by
  refine ki_setAt (items := xs.toArray) (n := n) hl h0 hfit (by simpa using hn) (h _ n (Heap.SameBut.update ..) ?_)
  rw [Heap.get?_update_self _ hl rfl]
  simp [Obj.mapSeq]
theorem addList {l b : Addr} {xs ys : List Value} {n n2 : Nat} {Q : Value → Shared → Prop} (hl : s.heap.get? l = some (listO xs n)) (hb : s.heap.get? b = some (listO ys n2)) (hsz : xs.length + ys.length ≤ sizeLine)
    (h : ∀ T h', s.heap.StaysIn h' → s.heap.get? T = none → h'.get? T = some (listO (xs ++ ys) 0) → Q (.ref T) { s with heap := h' }) : wpAny (model prog w) A (binaryOp .Add (.ref l) (.ref b)) Q E s :=
  P.add_list hl hb (h _ _ (stays_push _ _) (none_size _) (by rw [Heap.get?_push_size _ rfl]; simp)) (by simpa using hsz)
theorem mulList1 {l : Addr} {v : Value} {k : Nat} {x : Int} {u : Tok} {Q : Value → Shared → Prop} (hn : s.heap.Ns L m) (hl : s.heap.get? l = some (listO [v] k)) (hlo : 0 ≤ x) (hhi : x ≤ 2 ^ 24)
    (h : ∀ T h', h'.Ns L m → (∀ b o, b ≠ L → s.heap.get? b = some o → h'.get? b = some o) → s.heap.get? T = none → h'.get? T = some (listO (List.replicate x.toNat v) 0) → Q (.ref T) { s with heap := h' }) :
    wpAny (model prog w) A (binaryOp .Mult (.ref l) (.int x u)) Q E s := by
  refine mul_list (items := #[v]) (frAll hn) (newsAll s.heap L) (by simpa using hl) (by omega) (by omega) (by simp; omega) fun h' F' N' => ?_
  refine h _ h' F'.ns (keptAll N' fun p hp => .tail _ hp) (none_size _) ?_
  rw [(N' _ (.head _)).1]
  have : (#[v] : Array Value).isEmpty = false := rfl
  rw [this, if_neg Bool.false_ne_true, foldl_rep1]
theorem tupleOf {l : Addr} {xs : List Value} {n : Nat} {Q : Value → Shared → Prop} (hn : s.heap.Ns L m) (hl : s.heap.get? l = some (listO xs n)) (hsz : xs.length ≤ 16384)
    (h : ∀ T h', h'.Ns L m → (∀ b o, b ≠ L → s.heap.get? b = some o → h'.get? b = some o) → (∀ o, s.heap.get? T = some o → T = L) → h'.get? T = some (tupO xs 0) → T ≠ L → Q (.ref T) { s with heap := h' }) :
    wpAny (model prog w) A (call (.type "tuple") [.ref l]) Q E s := by
  refine kde_tupleOf (items := xs.toArray) (zs := xs) (frAll hn) (newsAll s.heap L) ⟨_, hl, rfl, _, rfl⟩ (by simpa using hsz) rfl fun D h' F' N' hlt => ?_
  refine h D h' F'.ns (keptAll N' fun p hp => .tail _ hp) (fun o e => ?_) (N' _ (.head _)).1 (N' _ (.head _)).2.1
  by_cases q : D = L
  · exact q
  · exact absurd (hlt _ (mem_allOf.mpr ⟨e, q⟩)) (Nat.lt_irrefl _)
end

section
variable {prog : Program} {w : World} {A : Around} {E : Value → Shared → Prop} {s : Shared} {K : Frag} {C x dx L : Addr} {I : Heap} {m : Str → Option Value} {pre post : Led} {es es' : List DictEntry} {n n' : Nat} {name : Str} {v : Value} {sl : Array (Option Value)}

/-- a field of an object that this frame fills -/
theorem setA {Q : Unit → Shared → Prop} (F : Fm I L s.heap m (pre ++ (dx, dictOf es n) :: post)) (ab : I.objs.size ≤ L) (X₀ : K.In I) (hx : (x, (⟨.ref C, some dx, .plain, sl⟩ : Obj)) ∈ pre ++ (dx, dictOf es n) :: post)
    (hs : findIn K (.ref C) "__setattr__" = some (some (.builtin "object.__setattr__"))) (hp : plainOver K C = true) (ht : takerIn K C name = some none) (hh : hasDictIn K C = true) (hl : (getL name es).isSome = true)
    (e : (putL name (PyData.keyHash w.params name) (.str name (s.toks + 1)) v es, putN name es n) = (es', n')) (hz : es'.length ≤ 1000)
    (h : ∀ h', Fm I L h' m (pre ++ (dx, dictOf es' n') :: post) → Q () { s with heap := h', toks := s.toks + 2 }) :
    wpAny (model prog w) A (setAttr (.ref x) name v) Q E s := by
  obtain ⟨e1, e2⟩ := Prod.mk.inj e
  have nd := F.nd
  rw [List.map_append, List.map_cons] at nd
  have nd2 := List.nodup_append.mp nd
  have npre : ∀ p ∈ pre, p.1 ≠ dx := fun p hp e => nd2.2.2 p.1 (List.mem_map_of_mem hp) dx (by simp) e
  have npost : ∀ p ∈ post, p.1 ≠ dx := fun p hp e => (List.nodup_cons.mp nd2.2.1).1 (List.mem_map.mpr ⟨p, hp, e⟩)
  have Ii : W.InstAt s.heap x ⟨.ref C, some dx, .plain, sl⟩ C (some (dictOf es n)) := InstAt.of_news F.mus hx (by simp)
  exact set_plain (X₀.keeps F.keep) Ii hs (osa_dict (s := { s with toks := s.toks + 1 }) (F.fr ab) F.mus (X₀.keeps F.keep) Ii rfl hp ht hh hl npre npost (by rw [putName_dict, e1, e2]) rfl hz fun h' F' N' =>
    h h' ⟨F'.ns, F'.keep, F.out, N', by rw [List.map_append, List.map_cons]; exact nd⟩)

def StrKs (es : List DictEntry) : Prop := ∀ e ∈ es, ∃ a t, e.key = .str a t
theorem isStr_str (a b : Str) (t : Tok) : (Value.str a t).isStr b = (a == b) := rfl
theorem getL_cons (y : Str) (e : DictEntry) (es : List DictEntry) (a : Str) (t : Tok) (he : e.key = .str a t) (hk : StrKs es) : getL y (e :: es) = if y = a then some (some e.val) else getL y es := by
  have hr : ∀ e ∈ es, e.refKey = false := fun e he => by obtain ⟨a, t, q⟩ := hk e he; simp [DictEntry.refKey, q]
  have h1 : e.refKey = false := by simp [DictEntry.refKey, he]
  unfold getL
  rw [List.find?_cons, List.any_cons, h1, Bool.false_or, he, isStr_str]
  by_cases q : y = a
  · subst q; simp
  · have : (a == y) = false := by simpa using fun e => q e.symm
    rw [this, if_neg q]
theorem putL_strKs {name : Str} {hs : Int} {tk : Tok} {v : Value} : ∀ {es : List DictEntry}, StrKs es → StrKs (putL name hs (.str name tk) v es) := by
  intro es
  induction es with
  | nil => intro _ e he; rw [putL] at he; rw [List.mem_singleton.mp he]; exact ⟨_, _, rfl⟩
  | cons x r ih =>
    intro hk e he
    rw [putL] at he
    split at he
    · rcases List.mem_cons.mp he with rfl | he
      · exact hk x (.head _)
      · exact hk e (.tail _ he)
    · rcases List.mem_cons.mp he with rfl | he
      · exact hk _ (.head _)
      · exact ih (fun e q => hk e (.tail _ q)) e he
theorem getL_putL {name y : Str} {hs : Int} {tk : Tok} {v : Value} : ∀ {es : List DictEntry}, StrKs es → getL y (putL name hs (.str name tk) v es) = if y = name then some (some v) else getL y es := by
  intro es
  induction es with
  | nil =>
    intro _
    rw [putL, getL_cons y _ [] name tk rfl (fun _ h => nomatch h)]
  | cons x r ih =>
    intro hk
    obtain ⟨a, t, ha⟩ := hk x (.head _)
    have hr : StrKs r := fun e q => hk e (.tail _ q)
    rw [putL, ha, isStr_str]
    by_cases q : a = name
    · subst q
      rw [if_pos (by simp), getL_cons y x r a t ha hr, getL_cons y _ r a t rfl hr]
      by_cases q2 : y = a
      · rw [if_pos q2, if_pos q2]
      · rw [if_neg q2, if_neg q2, if_neg q2]
    · rw [if_neg (by simpa using q), getL_cons y x _ a t ha (putL_strKs hr), ih hr, getL_cons y x r a t ha hr]
      by_cases q2 : y = a
      · subst q2; rw [if_pos rfl, if_neg q, if_pos rfl]
      · rw [if_neg q2, if_neg q2]
theorem putL_len {name : Str} {hs : Int} {k v : Value} : ∀ (es : List DictEntry), (putL name hs k v es).length ≤ es.length + 1 := by
  intro es
  induction es with
  | nil => exact Nat.le_refl _
  | cons x r ih => rw [putL]; split <;> simp only [List.length_cons] at * <;> omega
theorem getL_some {es : List DictEntry} (hk : StrKs es) (y : Str) : (getL y es).isSome = true := by
  induction es with
  | nil => rfl
  | cons x r ih =>
    obtain ⟨a, t, ha⟩ := hk x (.head _)
    rw [getL_cons y x r a t ha fun e q => hk e (.tail _ q)]
    split
    · rfl
    · exact ih fun e q => hk e (.tail _ q)

theorem setB {Q : Unit → Shared → Prop} (F : Fm I L s.heap m (pre ++ (dx, dictOf es n) :: post)) (ab : I.objs.size ≤ L) (X₀ : K.In I) (hx : (x, (⟨.ref C, some dx, .plain, sl⟩ : Obj)) ∈ pre ++ (dx, dictOf es n) :: post)
    (hs : findIn K (.ref C) "__setattr__" = some (some (.builtin "object.__setattr__"))) (hp : plainOver K C = true) (ht : takerIn K C name = some none) (hh : hasDictIn K C = true) (hk : StrKs es) (hz : es.length ≤ 100)
    (h : ∀ h' es' n' tk', StrKs es' → es'.length ≤ es.length + 1 → (∀ y, getL y es' = if y = name then some (some v) else getL y es) → Fm I L h' m (pre ++ (dx, dictOf es' n') :: post) → Q () { s with heap := h', toks := tk' }) :
    wpAny (model prog w) A (setAttr (.ref x) name v) Q E s :=
  setA F ab X₀ hx hs hp ht hh (getL_some hk _) rfl (Nat.le_trans (putL_len _) (by omega)) fun h' F' => h h' _ _ _ (putL_strKs hk) (putL_len _) (fun _ => getL_putL hk) F'

/-- a field read -/
theorem getA {Q : Value → Shared → Prop} {expr : Bool} {attr : Option Value} (X : K.In s.heap) (hx : s.heap.get? x = some (⟨.ref C, some dx, .plain, sl⟩ : Obj)) (hd : s.heap.get? dx = some (dictOf es n)) (hg : plainGet K C name = true) (hh : hasDictIn K C = true)
    (ha : findIn K (.ref C) name = some attr) (hn : noGet K attr = true) (hl : getL name es = some (some v)) (hv : handedIn v = true) (h : Q v { s with toks := s.toks + 1 }) :
    wpAny (model prog w) A (getAttr (.ref x) name expr) Q E s :=
  get_value X ⟨hx, rfl, rfl, hd⟩ (W.plainGet_of hg).1 (findObj_own (od := dictOf es n) hh ha hn hl) hv h
end

section
variable {prog : Program} {w : World} {A : Around} {R : Result → Shared → Prop} {g : Array GenState} {d : Drawn} {os : OsState} {h : Heap} {tk : Nat}
theorem Rm.make {A : Around} {d u d' u' : Nat} (r : Rm A d u) (C : Addr) (vals : List Value) (hd : d' + 1 ≤ d := by omega) (hu : u' + 1 ≤ u := by omega) : Rm (A.under (Code.builtin "type.__call__" { pos := Value.ref C :: vals })) d' u' :=
  ⟨r.handled, by have := r.depth; rw [depth_under_make]; omega, by have := r.units; show A.units + 1 + u' < _; omega⟩

/-- a Whitespace is made, then filled -/
theorem make_ws {vals : List Value} {dd u : Nat} (X : (hd.heap_39 w.params).In h) (rm : Rm A (dd + 1) (u + 1))
    (hq : ∀ A', Rm A' dd u → codeAny (model prog w) A' (.call (.ref 86) ⟨.ref (h.objs.size + 1) :: vals, []⟩) (InitBack (h.objs.size + 1) R) ⟨(h.push emptyDict).push (instObj 131 h.objs.size), g, d, tk, os⟩) :
    codeAny (model prog w) A (.call (.ref 131) ⟨vals, []⟩) R ⟨h, g, d, tk, os⟩ := by
  refine make_core (makes_of X (by exact rfl)) (looks_findIn X (show findIn (hd.heap_39 w.params) (.ref 131) "__init__" = some (some (.ref 86)) from rfl)) (fun self => bind_fn X self (by exact rfl)) (.inl rfl) (hq _ (rm.make _ _))
end

abbrev dI (ns : List Int) : PyData := .list (ns.map .int)
abbrev tI (ns : List Int) : PyData := .tuple (ns.map .int)
theorem eqv_int (a b : Int) : PyData.eqv (.int a) (.int b) = decide (a = b) := by
  show (a == b) = _
  by_cases h : a = b <;> simp [h]
theorem eqvAll_ints : ∀ ns ms : List Int, PyData.eqvAll (ns.map .int) (ms.map .int) = decide (ns = ms)
  | [], [] => by simp [PyData.eqvAll]
  | [], _ :: _ => by simp [PyData.eqvAll]
  | _ :: _, [] => by simp [PyData.eqvAll]
  | a :: r, b :: q => by
    rw [List.map_cons, List.map_cons, PyData.eqvAll, eqvAll_ints r q, eqv_int]
    by_cases h : a = b <;> by_cases k : r = q <;> simp [h, k]
theorem eqv_dI (ns ms : List Int) : PyData.eqv (dI ns) (dI ms) = decide (ns = ms) := by rw [dI, dI, PyData.eqv, eqvAll_ints]
theorem eqv_tI (ns ms : List Int) : PyData.eqv (tI ns) (tI ms) = decide (ns = ms) := by rw [tI, tI, PyData.eqv, eqvAll_ints]
theorem eqvAll_rows : ∀ xs ys : List (List Int), PyData.eqvAll (xs.map dI) (ys.map dI) = decide (xs = ys)
  | [], [] => by simp [PyData.eqvAll]
  | [], _ :: _ => by simp [PyData.eqvAll]
  | _ :: _, [] => by simp [PyData.eqvAll]
  | a :: r, b :: q => by
    rw [List.map_cons, List.map_cons, PyData.eqvAll, eqvAll_rows r q, eqv_dI]
    by_cases h : a = b <;> by_cases k : r = q <;> simp [h, k]
abbrev dII (xs : List (List Int)) : PyData := .list (xs.map dI)
theorem eqv_dII (xs ys : List (List Int)) : PyData.eqv (dII xs) (dII ys) = decide (xs = ys) := by rw [dII, dII, PyData.eqv, eqvAll_rows]
abbrev dN (p : List Int × Nat) : PyData := .tuple [tI p.1, .int p.2]
theorem eqv_dN (p q : List Int × Nat) : PyData.eqv (dN p) (dN q) = decide (p = q) := by
  obtain ⟨a, b⟩ := p; obtain ⟨c, d⟩ := q
  rw [dN, dN, PyData.eqv, PyData.eqvAll, eqv_tI, PyData.eqvAll, eqv_int, PyData.eqvAll]
  by_cases h : a = c <;> by_cases k : b = d <;> simp [h, k] <;> omega
theorem lay_ints : ∀ ns : List Int, PyData.canLayAll0 (ns.map .int) = true
  | [] => rfl
  | a :: r => by rw [List.map_cons, PyData.canLayAll0, lay_ints r]; rfl
theorem lay_dI (ns : List Int) : (dI ns).canLay0 = true := by rw [dI, PyData.canLay0, lay_ints]
theorem lay_tI (ns : List Int) : (tI ns).canLay0 = true := by rw [tI, PyData.canLay0, lay_ints]
theorem lay_rows : ∀ xs : List (List Int), PyData.canLayAll0 (xs.map dI) = true
  | [] => rfl
  | a :: r => by rw [List.map_cons, PyData.canLayAll0, lay_rows r, lay_dI]; rfl
theorem lay_dII (xs : List (List Int)) : (dII xs).canLay0 = true := by rw [dII, PyData.canLay0, lay_rows]
theorem lay_dN (p : List Int × Nat) : (dN p).canLay0 = true := by
  rw [dN, PyData.canLay0, PyData.canLayAll0, lay_tI]; rfl
theorem dep_ints : ∀ ns : List Int, PyData.depthAll (ns.map .int) ≤ 1
  | [] => by simp [PyData.depthAll]
  | a :: r => by rw [List.map_cons, PyData.depthAll]; have := dep_ints r; have h : PyData.depth (.int a) ≤ 1 := by simp [PyData.depth]
                 omega
theorem dep_dI (ns : List Int) : (dI ns).depth ≤ 2 := by rw [dI, PyData.depth]; have := dep_ints ns; omega
theorem dep_tI (ns : List Int) : (tI ns).depth ≤ 2 := by rw [tI, PyData.depth]; have := dep_ints ns; omega
theorem dep_rows : ∀ xs : List (List Int), PyData.depthAll (xs.map dI) ≤ 2
  | [] => by simp [PyData.depthAll]
  | a :: r => by rw [List.map_cons, PyData.depthAll]; have := dep_rows r; have h := dep_dI a; omega
theorem dep_dII (xs : List (List Int)) : (dII xs).depth ≤ 3 := by rw [dII, PyData.depth]; have := dep_rows xs; omega
theorem dep_dN (p : List Int × Nat) : (dN p).depth ≤ 3 := by
  rw [dN, PyData.depth, PyData.depthAll, PyData.depthAll, PyData.depthAll]
  have := dep_tI p.1
  have h : PyData.depth (.int p.2) ≤ 1 := by simp [PyData.depth]
  omega
theorem reads_ints {h : Heap} : ∀ {vs : List Value} {ns : List Int}, IntsAre vs ns → ReadsAll h vs (ns.map .int) [] := by
  intro vs ns H
  induction H with
  | nil => exact .nil
  | cons n t _ ih => exact .cons (as := []) (.int n t) ih
theorem reads_dI {h : Heap} {a : Addr} {vs : List Value} {ns : List Int} {o : Obj} {k : Nat} (ho : h.get? a = some o) (hc : o.cls = .type "list") (hd : o.data = .seq vs.toArray k) (H : IntsAre vs ns) : Reads h (.ref a) (dI ns) [a] :=
  .list ho hc hd (by simpa using reads_ints H)
theorem reads_tI {h : Heap} {a : Addr} {vs : List Value} {ns : List Int} {o : Obj} {k : Nat} (ho : h.get? a = some o) (hc : o.cls = .type "tuple") (hd : o.data = .seq vs.toArray k) (H : IntsAre vs ns) : Reads h (.ref a) (tI ns) [] :=
  .tuple ho hc hd (by simpa using reads_ints H)

/-- the frame of a call of a def whose names are partly cells -/
theorem enterC {prog : Program} {w : World} {A : Around} {K : Frag} {R : Result → Shared → Prop} {name qual : Str} {params : Arguments} {body : List Stmt} {scope : Scope} {dV kV doc pm cdv ct oc : Value} {an od : Option Addr} {osl : Array (Option Value)} {f : Addr} {vals : List Value} {binds : List (Str × Value)} {dd u : Nat}
    {h : Heap} {g : Array GenState} {d : Drawn} {tk : Nat} {os : OsState}
    (X : K.In h) (hlim : h.NoLimit) (rm : Rm A (dd + 1) (u + 3))
    (ho : K.lookup f = some ⟨oc, od, .func (fnOf name qual params body scope dV kV doc pm an cdv ct), osl⟩) (hcd : codeIn K cdv qual = true)
    (hbind : bindArgs (fnOf name qual params body scope dV kV doc pm an cdv ct) ⟨vals, []⟩ = pure binds)
    (hkind : (binds.all fun y => scope.names.lookup y.1 == some .local || scope.names.lookup y.1 == some .cell) = true)
    (hh : ∀ L h₁ tk₁ A' E' m cm, Fr h L h₁ m → m = bindL (envOfC qual scope L f cdv).kindOf binds (fun _ => none) → cm = bindC (envOfC qual scope L f cdv).kindOf binds (fun _ => none) →
      (∀ n c, (cellsFrom (L + 1) scope.names []).lookup n = some c → ∃ o, h₁.get? c = some o ∧ o.data = .cell (cm n) ∧ L < c) → Rm A' dd u → (∀ c, L < c → h.get? c = none) →
      wpAny (model prog w) A' (execs body (envOfC qual scope L f cdv)) (fun fl s' => R (.ok (.ret (match fl with | .ret v => v | _ => .none))) s') E' ⟨h₁, g, d, tk₁, os⟩)
    (hco : scope.isCoroutine = false := by rfl) (hgen : scope.isGenerator = false := by rfl) (hk : scope.kind = .function := by rfl) : codeAny (model prog w) A (.call (.ref f) ⟨vals, []⟩) R ⟨h, g, d, tk, os⟩ := by
  refine codeAny_call_cells (fd := fnOf name qual params body scope dV kV doc pm an cdv ct) (body := body) (binds := binds) rm.room (X _ _ ho) rfl hlim (codeRec_of X hcd) rfl hbind rfl (kindsX hkind _) (fun s₁ x => ?_) hco hgen hk
  obtain ⟨⟨⟨h₁, tk₁, rfl⟩, hns, hkeep, hfresh⟩, hcell, hap, hab⟩ := x
  exact hh h.objs.size h₁ tk₁ _ _ _ _ ⟨hns, hkeep, Nat.le_refl _⟩ rfl rfl (fun n c hc => by
    obtain ⟨o, ho, hd⟩ := hcell n c hc
    exact ⟨o, ho, hd, hab n c (PySem.mem_of_lookup hc)⟩) (rm.deeper _) fun c hc => isNone_of fun o e => absurd (Heap.lt_size e) (Nat.not_lt.mpr (Nat.le_of_lt hc))

section
variable {M : Model} {A : Around} {E : Value → Shared → Prop} {s : Shared} {env : Env} {I : Heap} {m : Str → Option Value} {mu : Led}
theorem ldNs {x : Str} {pos : Pos} {v : Value} {Q : Value → Shared → Prop} (hn : s.heap.Ns env.locals m) (hv : m x = some v) (h : Q v s)
    (hk : env.scope.kind = .function) (hl : env.kindOf x = some .local) (hd : (x == ("__debug__" : Str)) = false) : wpAny M A (eval (.Name x pos) env) Q E s := wpAny_Name (wpAny_loadName_local hk hl hn hv h) hd
/-- a cell's name read -/
theorem ldCell {x : Str} {pos : Pos} {c : Addr} {o : Obj} {v : Value} {Q : Value → Shared → Prop} (hc : env.cells.lookup x = some c) (hm : s.heap.get? c = some o) (hd : o.data = .cell (some v)) (h : Q v s)
    (hk : env.scope.kind = .function) (hl : env.kindOf x = some .cell) (hd' : (x == ("__debug__" : Str)) = false) :
    wpAny M A (eval (.Name x pos) env) Q E s := wpAny_Name (wpAny_loadName_cell hk hl hc ⟨_, hm, hd⟩ h) hd'
theorem ldFree {x : Str} {pos : Pos} {c : Addr} {o : Obj} {v : Value} {Q : Value → Shared → Prop} (hc : env.cells.lookup x = some c) (hm : s.heap.get? c = some o) (hd : o.data = .cell (some v)) (h : Q v s)
    (hk : env.scope.kind = .function) (hl : env.kindOf x = some .free) (hd' : (x == ("__debug__" : Str)) = false) (hn : (x == ("__classdict__" : Str)) = false) :
    wpAny M A (eval (.Name x pos) env) Q E s := wpAny_Name (wpAny_loadName_free hk hl hc ⟨_, hm, hd⟩ h hn) hd'
theorem stCell {x : Str} {c L : Addr} {v : Value} {o : Obj} {v₀ : Option Value} {pre post : Led} {Q : Unit → Shared → Prop} (F : Fm I L s.heap m (pre ++ (c, o) :: post)) (hd : o.data = .cell v₀) (hc : env.cells.lookup x = some c)
    (h : ∀ h', Fm I L h' m (pre ++ (c, { o with data := .cell (some v) }) :: post) → Q () { s with heap := h' })
    (hk : env.scope.kind = .function) (hl : env.kindOf x = some .cell) : wpAny M A (storeName env x v) Q E s := by
  have Dc := F.get (a := c) (o := o) (by simp)
  unfold storeName
  simp only [hl, hk]
  refine wpAny_bind (wpAny_cellOf hc ?_)
  unfold cellSet
  refine wpAny_bind (wpAny_load Dc ?_)
  rw [hd]
  exact wpAny_update Dc (h _ (F.upd (Heap.SameBut.update ..) (Heap.get?_update_self _ Dc rfl)))
end
/-- a turn whose comprehension has no test -/
theorem turn_all {prog : Program} {w : World} {A : Around} {E : Value → Shared → Prop} {g : Array GenState} {d : Drawn} {os : OsState} {cenv : Env} {elt : Expr} {Inv : List Value → Led → Heap → Prop} {ys : List Value} {mu : Led} {I h : Heap} {tk : Nat}
    (hq : wpAny (model prog w) A (eval elt cenv) (fun y s'' => ∃ h'' tk'' mu', s'' = ⟨h'', g, d, tk'', os⟩ ∧ mu'.map (·.1) = mu.map (·.1) ∧ (∀ p ∈ mu', h''.get? p.1 = some p.2) ∧
              (∀ b o, b ∉ mu.map (·.1) → h.get? b = some o → h''.get? b = some o) ∧
              ∀ I', I.StaysIn I' → (∀ b o, h''.get? b = some o → h.get? b = none → I'.get? b = some o) → Inv (ys ++ [y]) mu' I') E ⟨h, g, d, tk, os⟩) :
    Turn prog w A E g d os cenv elt [] Inv ys mu I h tk :=
  wpAny_tests_nil ⟨h, tk, rfl, fun _ _ e => e, by rw [if_pos rfl]; exact hq⟩
/-- a turn with one test -/
theorem turn_if {prog : Program} {w : World} {A : Around} {E : Value → Shared → Prop} {g : Array GenState} {d : Drawn} {os : OsState} {cenv : Env} {elt c : Expr} {Inv : List Value → Led → Heap → Prop} {ys : List Value} {mu : Led} {I h : Heap} {tk : Nat}
    (hq : wpAny (model prog w) A (PySem.isTrue c cenv (eval c cenv)) (fun ok s' => ∃ h' tk', s' = ⟨h', g, d, tk', os⟩ ∧ h.StaysIn h' ∧
          if ok = true then wpAny (model prog w) A (eval elt cenv) (fun y s'' => ∃ h'' tk'' mu', s'' = ⟨h'', g, d, tk'', os⟩ ∧ mu'.map (·.1) = mu.map (·.1) ∧ (∀ p ∈ mu', h''.get? p.1 = some p.2) ∧
              (∀ b o, b ∉ mu.map (·.1) → h'.get? b = some o → h''.get? b = some o) ∧
              ∀ I', I.StaysIn I' → (∀ b o, h''.get? b = some o → h'.get? b = none → I'.get? b = some o) → Inv (ys ++ [y]) mu' I') E s'
          else ∀ I', I.StaysIn I' → Inv ys mu I') E ⟨h, g, d, tk, os⟩) :
    Turn prog w A E g d os cenv elt [c] Inv ys mu I h tk := wpAny_tests_one hq
/-- a turn that turns nothing else: its element alone -/
theorem elt_pure {g : Array GenState} {d : Drawn} {os : OsState} {Inv : List Value → Led → Heap → Prop} {ys : List Value} {I h h'' : Heap} {y : Value} {tk'' : Nat} (k : h.StaysIn h'')
    (hi : ∀ I', I.StaysIn I' → (∀ b o, h''.get? b = some o → h.get? b = none → I'.get? b = some o) → Inv (ys ++ [y]) [] I') :
    ∃ h₂ tk₂ mu', (⟨h'', g, d, tk'', os⟩ : Shared) = ⟨h₂, g, d, tk₂, os⟩ ∧ mu'.map (·.1) = ([] : Led).map (·.1) ∧ (∀ p ∈ mu', h₂.get? p.1 = some p.2) ∧ (∀ b o, b ∉ ([] : Led).map (·.1) → h.get? b = some o → h₂.get? b = some o) ∧
      ∀ I', I.StaysIn I' → (∀ b o, h₂.get? b = some o → h.get? b = none → I'.get? b = some o) → Inv (ys ++ [y]) mu' I' :=
  ⟨h'', tk'', [], rfl, rfl, (fun _ hp => nomatch hp), fun b o _ e => k b o e, hi⟩

section
variable {prog : Program} {w : World} {A : Around} {E : Value → Shared → Prop} {s : Shared} {env : Env} {c : Code}
/-- rules that keep sight of the code that runs: calls with arguments -/
theorem at_Call {func : Expr} {args : List Expr} {pos : Pos} {Q : Value → Shared → Prop}
    (h : PySem.wpAt (model prog w) A c (eval func env) (fun f s₁ => PySem.wpAt (model prog w) A c (callWith pos f [] (backTo pos (starEach args env)) []) Q E s₁) E s)
    (he : eval (.Call func args [] pos) env = (do callWith pos (← eval func env) [] (backTo pos (starEach args env)) (backToKw pos (keywordEach [] env))) := by rfl) :
    PySem.wpAt (model prog w) A c (eval (.Call func args [] pos) env) Q E s := by
  rw [he]; exact PySem.wpAt_bind h
theorem at_spliced {x : Sem Value} {rest : List (Bool × Sem Value)} {Q : List Value → Shared → Prop}
    (h : PySem.wpAt (model prog w) A c x (fun v s₁ => PySem.wpAt (model prog w) A c (spliced rest) (fun vs s₂ => Q (v :: vs) s₂) E s₁) E s) : PySem.wpAt (model prog w) A c (spliced ((false, x) :: rest)) Q E s := by
  rw [spliced]
  refine PySem.wpAt_bind (PySem.wpAt_mono h (fun v s₁ h₁ => ?_) fun _ _ x => x)
  simp only [Bool.false_eq_true, if_false]
  exact PySem.wpAt_bind (PySem.wpAt_of_wpAny (wpAny_pure (PySem.wpAt_bind (PySem.ks_wpAt_holding (PySem.wpAt_mono h₁ (fun vs s₂ h₂ => PySem.wpAt_of_wpAny (wpAny_pure h₂)) fun _ _ x => x)))))
theorem at_evalArgs {f : Value} {x : Sem Value} {rest : List (Bool × Sem Value)} {Q : Args → Shared → Prop}
    (h : PySem.wpAt (model prog w) A c (spliced ((false, x) :: rest)) (fun vs s' => Q ⟨vs, []⟩ s') E s) : PySem.wpAt (model prog w) A c (evalArgs f true ((false, x) :: rest) []) Q E s := by
  unfold evalArgs
  show PySem.wpAt (model prog w) A c (spliced ((false, x) :: rest) >>= _) Q E s
  refine PySem.wpAt_bind (PySem.wpAt_mono h (fun vs s' h' => PySem.wpAt_of_wpAny ?_) fun _ _ x => x)
  refine wpAny_holding ?_
  exact wpAny_bind (wpAny_pure (wpAny_bind (wpAny_pure (wpAny_pure h'))))
theorem at_callWith_builtin {pos : Pos} {id : String} {first : List Value} {args : List (Bool × Sem Value)} {Q : Value → Shared → Prop} (hplain : args.any (·.1) = false)
    (h : PySem.wpAt (model prog w) A c (evalArgs (.builtin id) true args []) (fun a s₁ => wpAny (model prog w) A (call (.builtin id) (first ++ a.pos) a.kw) Q E s₁) E s) :
    PySem.wpAt (model prog w) A c (callWith pos (.builtin id) first args []) Q E s := by
  unfold callWith
  refine PySem.wpAt_bind (PySem.ks_wpAt_holding (PySem.wpAt_mono h (fun a s₁ h₁ => PySem.wpAt_of_wpAny (wpAny_bind (wpAny_standAt ?_))) fun _ _ x => x))
  simp only [hplain, List.any_nil, Bool.or_false]
  refine wpAny_bind (wpAny_pure ?_)
  exact wpAny_bind (wpAny_mono h₁ (fun r s₂ hr => wpAny_bind (wpAny_holding (wpAny_point (wpAny_pure hr)))) fun _ _ x => x)
theorem at_items {e : Expr} {rest : List Expr} {pos : Pos} {Q : List Value → Shared → Prop}
    (h : PySem.wpAt (model prog w) A c (eval e env) (fun v s₁ => PySem.wpAt (model prog w) A c (spliced (backTo pos (starEach rest env))) (fun vs s₂ => Q (v :: vs) s₂) E s₁) E s)
    (he : starEach (e :: rest) env = (false, eval e env) :: starEach rest env := by rfl) : PySem.wpAt (model prog w) A c (spliced (backTo pos (starEach (e :: rest) env))) Q E s := by
  rw [he]; exact at_spliced h
theorem at_nil {pos : Pos} {Q : List Value → Shared → Prop} (h : Q [] s) : PySem.wpAt (model prog w) A c (spliced (backTo pos (starEach [] env))) Q E s := PySem.wpAt_of_wpAny (spliced_nil h)
theorem at_callB {pos : Pos} {id : String} {e : Expr} {rest : List Expr} {Q : Value → Shared → Prop}
    (h : PySem.wpAt (model prog w) A c (spliced (backTo pos (starEach (e :: rest) env))) (fun vs s₁ => wpAny (model prog w) A (call (.builtin id) vs) Q E s₁) E s)
    (he : starEach (e :: rest) env = (false, eval e env) :: starEach rest env := by rfl)
    (hplain : (backTo pos (starEach rest env)).any (·.1) = false := by rfl) :
    PySem.wpAt (model prog w) A c (callWith pos (.builtin id) [] (backTo pos (starEach (e :: rest) env)) []) Q E s := by
  rw [he] at h ⊢
  exact at_callWith_builtin (by show (false || (backTo pos (starEach rest env)).any (·.1)) = false; rw [hplain]; rfl) (at_evalArgs h)
theorem at_Attribute {value : Expr} {attr : Str} {pos : Pos} {Q : Value → Shared → Prop}
    (h : PySem.wpAt (model prog w) A c (attributeBase value attr env (eval value env)) (fun o s₁ => wpAny (model prog w) A (getAttr o attr true) Q E s₁) E s)
    (he : eval (.Attribute value attr pos) env = (do
      let o ← attributeBase value attr env (eval value env)
      standAt pos.atName
      let r ← holding [o] (getAttr o attr true)
      letTemporaryGo value o r
      pure r) := by with_unfolding_all rfl) :
    PySem.wpAt (model prog w) A c (eval (.Attribute value attr pos) env) Q E s := by
  rw [he]
  refine PySem.wpAt_bind (PySem.wpAt_mono h (fun o s₁ h₁ => PySem.wpAt_of_wpAny (wpAny_bind (wpAny_standAt (wpAny_bind (wpAny_holding (wpAny_mono h₁ (fun r s₂ h₂ => ?_) fun _ _ x => x)))))) fun _ _ x => x)
  exact wpAny_bind (wpAny_letTemporaryGo (wpAny_pure h₂))
end

theorem foldl_repL (s : List Nat) : ∀ (k : Nat) (acc : List Nat), (List.replicate k s.toArray).foldl (· ++ ·) acc.toArray = (acc ++ (List.replicate k s).flatten).toArray
  | 0, acc => by simp
  | k + 1, acc => by
    rw [List.replicate_succ, List.foldl_cons]
    have : acc.toArray ++ s.toArray = (acc ++ s).toArray := by simp
    rw [this, foldl_repL s k]
    simp [List.replicate_succ]
theorem mul_txs (s : List Nat) (n : Int) : Txt.mul (tx s) n = tx (List.replicate n.toNat s).flatten := by
  unfold Txt.mul
  by_cases h1 : n < 1
  · rw [if_pos h1, show n.toNat = 0 from by omega]; rfl
  · rw [if_neg h1]
    split
    · rename_i h2
      by_cases h3 : n = 1
      · subst h3; simp
      · have : s.length = 0 := by simpa [h3, tx_len] using h2
        rw [List.length_eq_zero_iff.mp this]
        simp [tx]
    · refine Str.ext' ?_
      have := foldl_repL s n.toNat []
      simpa [tx] using this
/-- the text of a norm -/
def spellL (p : List Int × Nat) : List Nat := ((List.range p.1.length).map fun k => (List.replicate (p.1.getD k 0).toNat (List.replicate k 32 ++ [9])).flatten).flatten ++ List.replicate p.2 32
theorem join_tx : ∀ ls : List (List Nat), Str.join (Str.ofString "") (ls.map tx) = tx ls.flatten
  | [] => rfl
  | [x] => by simp [Str.join]
  | x :: y :: r => by
    have ih := join_tx (y :: r)
    have e : Str.ofString "" = tx [] := by decide +kernel
    rw [List.map_cons, List.map_cons, Str.join, ← List.map_cons, ih, e, tx_app, tx_app]
    simp
    intro h; simp at h
theorem txt_join (ls : List (List Nat)) : Txt.join (Str.ofString "") (ls.map tx) = tx ls.flatten := by
  unfold Txt.join
  rw [StrLaws.glued_eq_join]; exact join_tx ls
/-- bounds of a norm that the walk asks -/
def NB (p : List Int × Nat) : Prop := p.1.length ≤ 20 ∧ p.2 ≤ 20 ∧ ∀ c ∈ p.1, 0 ≤ c ∧ c ≤ 20
theorem strs_snoc : ∀ {vs : List Value} {ys : List Str} {y : Str} {t : Tok}, StrsAre vs ys → StrsAre (vs ++ [.str y t]) (ys ++ [y]) := by
  intro vs ys y t h
  induction h with
  | nil => exact .cons _ _ .nil
  | cons _ _ _ ih => exact .cons _ _ ih
theorem rep_len (n k : Nat) : ((List.replicate n (List.replicate k 32 ++ [9])).flatten).length = n * (k + 1) := by simp
theorem seqIdx {i len : Nat} (h : i < len) : seqIndex? ((0 : Int) + (i : Int) * 1) len = some i := by
  unfold seqIndex?
  have e : (0 : Int) + (i : Int) * 1 = (i : Int) := by omega
  rw [e]
  have h1 : ¬ ((i : Int) < 0) := by omega
  simp only [h1, if_false]
  have h2 : ((i : Int) < (len : Int)) := by omega
  simp [h2]
theorem sum_le {ls : List Nat} {b : Nat} (h : ∀ x ∈ ls, x ≤ b) : ls.sum ≤ ls.length * b := by
  induction ls with
  | nil => simp
  | cons x r ih =>
    have h1 := h x (.head _)
    have h2 := ih fun y hy => h y (.tail _ hy)
    rw [List.sum_cons, List.length_cons, Nat.succ_mul]; omega
theorem spell_part_len {p : List Int × Nat} (hb : NB p) {k : Nat} (hk : k < p.1.length) : ((List.replicate (p.1.getD k 0).toNat (List.replicate k 32 ++ [9])).flatten).length ≤ 420 := by
  rw [rep_len]
  obtain ⟨h1, h2, h3⟩ := hb
  have hmem : p.1.getD k 0 ∈ p.1 := by rw [List.getD_eq_getElem?_getD, List.getElem?_eq_getElem hk]; exact List.getElem_mem _
  have := h3 _ hmem
  have a : (p.1.getD k 0).toNat ≤ 20 := by omega
  have b : k + 1 ≤ 21 := by omega
  calc (p.1.getD k 0).toNat * (k + 1) ≤ 20 * 21 := Nat.mul_le_mul a b
    _ = 420 := rfl
theorem spell_sum {p : List Int × Nat} (hb : NB p) (n : Nat) (hn : n ≤ p.1.length) :
    (((List.range n).map fun k => (List.replicate (p.1.getD k 0).toNat (List.replicate k 32 ++ [9])).flatten).map List.length).sum ≤ n * 420 := by
  have := @sum_le (((List.range n).map fun k => (List.replicate (p.1.getD k 0).toNat (List.replicate k 32 ++ [9])).flatten).map List.length) 420 (fun x hx => by
    obtain ⟨y, hy, rfl⟩ := List.mem_map.mp hx
    obtain ⟨k, hk, rfl⟩ := List.mem_map.mp hy
    exact spell_part_len hb (Nat.lt_of_lt_of_le (List.mem_range.mp hk) hn))
  simpa using this

/-- a lead by its number below 162 -/
def IsLead (l : List Nat) : Prop := ∃ x, x < 162 ∧ l = leadL x
theorem IsLead.of (x : Nat) : IsLead (leadL x) := ⟨x % 162, Nat.mod_lt _ (by decide), leadL_mod x⟩
theorem IsLead.len {l : List Nat} (h : IsLead l) : l.length ≤ 12 := let ⟨x, _, e⟩ := h; e ▸ leadL_len x
abbrev keyL (l : List Nat) : List Nat := spellL (normL l)
/-- the first lead at the same columns -/
def repT : List Nat := [0, 1, 2, 3, 4, 5, 1, 2, 8, 9, 10, 11, 2, 8, 14, 15, 16, 17, 3, 4, 5, 21, 22, 23, 4, 5, 26, 22, 28, 29, 5, 26, 32, 23, 29, 35, 21, 22, 23, 39, 40, 41, 22, 23, 44, 40, 46, 47, 23, 44, 50, 41, 47, 53, 1, 2, 8, 9, 10, 11, 2, 8, 14, 15, 16, 17, 8, 14, 68, 69, 70, 71, 9, 10, 11, 75, 76, 77, 10, 11, 80, 76, 82, 83, 11, 80, 86, 77, 83, 89, 75, 76, 77, 93, 94, 95, 76, 77, 98, 94, 100, 101, 77, 98, 104, 95, 101, 107, 2, 8, 14, 15, 16, 17, 8, 14, 68, 69, 70, 71, 14, 68, 122, 123, 124, 125, 15, 16, 17, 129, 130, 131, 16, 17, 134, 130, 136, 137, 17, 134, 140, 131, 137, 143, 129, 130, 131, 147, 148, 149, 130, 131, 152, 148, 154, 155, 131, 152, 158, 149, 155, 161]
def repsT : List Nat := [0, 1, 2, 3, 4, 5, 8, 9, 10, 11, 14, 15, 16, 17, 21, 22, 23, 26, 28, 29, 32, 35, 39, 40, 41, 44, 46, 47, 50, 53, 68, 69, 70, 71, 75, 76, 77, 80, 82, 83, 86, 89, 93, 94, 95, 98, 100, 101, 104, 107, 122, 123, 124, 125, 129, 130, 131, 134, 136, 137, 140, 143, 147, 148, 149, 152, 154, 155, 158, 161]
def encI (l : List Int) : Nat := l.foldl (fun a c => a * 64 + c.toNat) 0
def encN (l : List Nat) : Nat := l.foldl (fun a c => a * 64 + c) 0
theorem rep_cols : ((List.range 162).all fun x => decide (colsL (leadL x) = colsL (leadL (repT.getD x 0)))) = true := by decide +kernel
theorem rep_norm : ((List.range 162).all fun x => decide (normL (leadL x) = normL (leadL (repT.getD x 0)))) = true := by decide +kernel
theorem rep_mem : ((List.range 162).all fun x => repsT.contains (repT.getD x 0)) = true := by decide +kernel
theorem nb_all : ((List.range 162).all fun x => decide ((normL (leadL x)).1.length ≤ 20 ∧ (normL (leadL x)).2 ≤ 20) && (normL (leadL x)).1.all fun c => decide (0 ≤ c ∧ c ≤ 20)) = true := by decide +kernel
theorem cols_nd : (repsT.map fun r => encI (colsL (leadL r))).Nodup := by decide +kernel
theorem key_nd : (repsT.map fun r => encN (keyL (leadL r))).Nodup := by decide +kernel
theorem nodup_inj {f : Nat → Nat} : ∀ {l : List Nat}, (l.map f).Nodup → ∀ {a b : Nat}, a ∈ l → b ∈ l → f a = f b → a = b
  | [], _, _, _, h, _, _ => nomatch h
  | x :: r, nd, a, b, ha, hb, e => by
    rw [List.map_cons, List.nodup_cons] at nd
    rcases List.mem_cons.mp ha with q | ha'
    · rcases List.mem_cons.mp hb with q' | hb'
      · rw [q, q']
      · exact absurd (q ▸ e ▸ List.mem_map_of_mem hb') nd.1
    · rcases List.mem_cons.mp hb with q' | hb'
      · exact absurd (q' ▸ e ▸ List.mem_map_of_mem ha') nd.1
      · exact nodup_inj nd.2 ha' hb' e
theorem all162 {p : Nat → Bool} (h : ((List.range 162).all p) = true) {x : Nat} (hx : x < 162) : p x = true := List.all_eq_true.mp h x (List.mem_range.mpr hx)
theorem lead_same {l l' : List Nat} (h : IsLead l) (h' : IsLead l') : (colsL l = colsL l' ↔ normL l = normL l') ∧ (colsL l = colsL l' ↔ keyL l = keyL l') := by
  obtain ⟨x, hx, rfl⟩ := h
  obtain ⟨y, hy, rfl⟩ := h'
  have cx := of_decide_eq_true (all162 rep_cols hx)
  have cy := of_decide_eq_true (all162 rep_cols hy)
  have nx := of_decide_eq_true (all162 rep_norm hx)
  have ny := of_decide_eq_true (all162 rep_norm hy)
  have mx : repT.getD x 0 ∈ repsT := List.contains_iff_mem.mp (all162 rep_mem hx)
  have my : repT.getD y 0 ∈ repsT := List.contains_iff_mem.mp (all162 rep_mem hy)
  have a : colsL (leadL x) = colsL (leadL y) → repT.getD x 0 = repT.getD y 0 := fun e => nodup_inj cols_nd mx my (by show encI _ = encI _; rw [← cx, ← cy, e])
  have b : keyL (leadL x) = keyL (leadL y) → repT.getD x 0 = repT.getD y 0 := fun e => nodup_inj key_nd mx my (by
    show encN (spellL (normL _)) = encN (spellL (normL _)); rw [← nx, ← ny]; exact congrArg encN e)
  have c : repT.getD x 0 = repT.getD y 0 → colsL (leadL x) = colsL (leadL y) := fun e => by rw [cx, cy, e]
  have n : repT.getD x 0 = repT.getD y 0 → normL (leadL x) = normL (leadL y) := fun e => by rw [nx, ny, e]
  exact ⟨⟨fun e => n (a e), fun e => c (b (congrArg spellL e))⟩, ⟨fun e => congrArg spellL (n (a e)), fun e => c (b e)⟩⟩
theorem lead_nb {l : List Nat} (h : IsLead l) : NB (normL l) := by
  obtain ⟨x, hx, rfl⟩ := h
  have := all162 nb_all hx
  rw [Bool.and_eq_true] at this
  obtain ⟨a, b⟩ := this
  have a := of_decide_eq_true a
  exact ⟨a.1, a.2, fun c hc => of_decide_eq_true (List.all_eq_true.mp b c hc)⟩

section
variable (κ : Nat → List Nat)
/-- the places of the texts below n that are the first of their class -/
def firstsN : Nat → List Nat
  | 0 => []
  | n + 1 => if (firstsN n).any (fun f => κ f == κ n) then firstsN n else firstsN n ++ [n]
def membersN (n f : Nat) : List Int := ((List.range n).filter fun m => κ m == κ f).map fun (m : Nat) => (m : Int)
/-- the rows of the book when n texts are entered -/
def rowsN (n : Nat) : List (List Nat × List Int) := (List.range (firstsN κ n).length).map fun c => (κ ((firstsN κ n).getD c 0), (c : Int) :: membersN κ n ((firstsN κ n).getD c 0))
def fillStep (rows : List (List Nat × List Int)) (k : Nat) (key : List Nat) : List (List Nat × List Int) :=
  if rows.any (fun r => r.1 == key) then rows.map (fun r => if r.1 == key then (r.1, r.2 ++ [(k : Int)]) else r) else rows ++ [(key, [(rows.length : Int), (k : Int)])]

theorem firstsN_lt : ∀ {n f : Nat}, f ∈ firstsN κ n → f < n
  | 0, _, h => nomatch h
  | n + 1, f, h => by
    rw [firstsN] at h
    split at h
    · exact Nat.lt_succ_of_lt (firstsN_lt h)
    · rcases List.mem_append.mp h with h | h
      · exact Nat.lt_succ_of_lt (firstsN_lt h)
      · rw [List.mem_singleton.mp h]; exact Nat.lt_succ_self n
theorem firstsN_all : ∀ {n m : Nat}, m < n → ∃ f ∈ firstsN κ n, κ f = κ m
  | 0, _, h => nomatch h
  | n + 1, m, h => by
    rw [firstsN]
    by_cases q : m < n
    · obtain ⟨f, hf, e⟩ := firstsN_all q
      split
      · exact ⟨f, hf, e⟩
      · exact ⟨f, List.mem_append_left _ hf, e⟩
    · have : m = n := by omega
      subst this
      split
      · rename_i ha
        obtain ⟨f, hf, e⟩ := List.any_eq_true.mp ha
        exact ⟨f, hf, by simpa using e⟩
      · exact ⟨m, by simp, rfl⟩
theorem firstsN_inj : ∀ {n f g : Nat}, f ∈ firstsN κ n → g ∈ firstsN κ n → κ f = κ g → f = g
  | 0, _, _, h, _, _ => nomatch h
  | n + 1, f, g, hf, hg, e => by
    rw [firstsN] at hf hg
    split at hf
    · rename_i ha
      rw [if_pos ha] at hg
      exact firstsN_inj hf hg e
    · rename_i ha
      rw [if_neg ha] at hg
      have no : ∀ f ∈ firstsN κ n, κ f ≠ κ n := fun f hf q => ha (List.any_eq_true.mpr ⟨f, hf, by simpa using q⟩)
      rcases List.mem_append.mp hf with hf | hf
      · rcases List.mem_append.mp hg with hg | hg
        · exact firstsN_inj hf hg e
        · rw [List.mem_singleton.mp hg] at e; exact absurd e (no f hf)
      · rw [List.mem_singleton.mp hf] at e ⊢
        rcases List.mem_append.mp hg with hg | hg
        · exact absurd e.symm (no g hg)
        · exact (List.mem_singleton.mp hg).symm
theorem firstsN_nodup : ∀ n : Nat, (firstsN κ n).Nodup
  | 0 => List.nodup_nil
  | n + 1 => by
    rw [firstsN]
    split
    · exact firstsN_nodup n
    · refine List.nodup_append.mpr ⟨firstsN_nodup n, by simp, fun a ha b hb e => ?_⟩
      rw [List.mem_singleton.mp hb] at e
      exact absurd (firstsN_lt κ ha) (by rw [e]; exact Nat.lt_irrefl n)
theorem membersN_succ (n f : Nat) : membersN κ (n + 1) f = membersN κ n f ++ if κ n == κ f then [(n : Int)] else [] := by
  unfold membersN
  rw [List.range_succ, List.filter_append, List.map_append]
  congr 1
  by_cases h : κ n == κ f <;> simp [h]
theorem rowsN_any (n : Nat) (key : List Nat) : (rowsN κ n).any (fun r => r.1 == key) = (firstsN κ n).any (fun f => κ f == key) := by
  rw [Bool.eq_iff_iff, List.any_eq_true, List.any_eq_true]
  constructor
  · rintro ⟨r, hr, e⟩
    obtain ⟨c, hc, rfl⟩ := List.mem_map.mp hr
    have hc := List.mem_range.mp hc
    refine ⟨(firstsN κ n).getD c 0, ?_, e⟩
    rw [List.getD_eq_getElem?_getD, List.getElem?_eq_getElem hc]; exact List.getElem_mem _
  · rintro ⟨f, hf, e⟩
    obtain ⟨c, hc, rfl⟩ := List.mem_iff_getElem.mp hf
    refine ⟨_, List.mem_map.mpr ⟨c, List.mem_range.mpr hc, rfl⟩, ?_⟩
    rw [List.getD_eq_getElem?_getD, List.getElem?_eq_getElem hc]; exact e
theorem rowsN_len (n : Nat) : (rowsN κ n).length = (firstsN κ n).length := by simp [rowsN]
theorem rowsN_succ (n : Nat) : rowsN κ (n + 1) = fillStep (rowsN κ n) n (κ n) := by
  unfold fillStep
  rw [rowsN_any]
  by_cases h : (firstsN κ n).any (fun f => κ f == κ n) = true
  · rw [if_pos h]
    have e : firstsN κ (n + 1) = firstsN κ n := by rw [firstsN, if_pos h]
    unfold rowsN
    rw [e, List.map_map]
    refine List.map_congr_left fun c hc => ?_
    show (_, _) = if (κ ((firstsN κ n).getD c 0) == κ n) = true then (_, _) else _
    rw [membersN_succ]
    by_cases q : κ n = κ ((firstsN κ n).getD c 0)
    · rw [if_pos (by simpa using q), if_pos (by simpa using q.symm)]
      rfl
    · rw [if_neg (by simpa using q), if_neg (by simpa using fun e => q e.symm), List.append_nil]
  · rw [if_neg h]
    have e : firstsN κ (n + 1) = firstsN κ n ++ [n] := by rw [firstsN, if_neg h]
    have no : ∀ f ∈ firstsN κ n, κ f ≠ κ n := fun f hf q => h (List.any_eq_true.mpr ⟨f, hf, by simpa using q⟩)
    rw [rowsN_len]
    unfold rowsN
    rw [e, List.length_append, List.length_singleton, List.range_succ, List.map_append]
    congr 1
    · refine List.map_congr_left fun c hc => ?_
      have hc := List.mem_range.mp hc
      have hg : (firstsN κ n ++ [n]).getD c 0 = (firstsN κ n).getD c 0 := by
        rw [List.getD_eq_getElem?_getD, List.getD_eq_getElem?_getD, List.getElem?_append_left hc]
      rw [hg, membersN_succ]
      have hm : (firstsN κ n).getD c 0 ∈ firstsN κ n := by rw [List.getD_eq_getElem?_getD, List.getElem?_eq_getElem hc]; exact List.getElem_mem _
      rw [if_neg (by simpa using fun q => no _ hm (Eq.symm q)), List.append_nil]
    · have hg : (firstsN κ n ++ [n]).getD (firstsN κ n).length 0 = n := by
        rw [List.getD_eq_getElem?_getD, List.getElem?_append_right (Nat.le_refl _)]; simp
      rw [List.map_singleton, hg, membersN_succ, if_pos (by simp)]
      have : membersN κ n n = [] := by
        unfold membersN
        rw [List.map_eq_nil_iff, List.filter_eq_nil_iff]
        intro m hm q
        obtain ⟨f, hf, e⟩ := firstsN_all κ (List.mem_range.mp hm)
        exact no f hf (e.trans (by simpa using q))
      rw [this]; rfl
end

theorem rowsN_keys (κ : Nat → List Nat) (n : Nat) : ((rowsN κ n).map (·.1)).Nodup := by
  have e : (rowsN κ n).map (·.1) = (firstsN κ n).map κ := by
    unfold rowsN
    rw [List.map_map]
    refine List.ext_getElem (by simp) fun i h1 h2 => ?_
    have hi : i < (firstsN κ n).length := by simpa using h2
    simp [List.getD_eq_getElem?_getD, List.getElem?_eq_getElem hi]
  rw [e]
  have gen : ∀ l : List Nat, l.Nodup → (∀ a ∈ l, ∀ b ∈ l, κ a = κ b → a = b) → (l.map κ).Nodup := by
    intro l
    induction l with
    | nil => intro _ _; exact List.nodup_nil
    | cons x r ih =>
      intro nd inj
      rw [List.map_cons, List.nodup_cons]
      have nd := List.nodup_cons.mp nd
      refine ⟨fun hm => ?_, ih nd.2 fun a ha b hb => inj a (.tail _ ha) b (.tail _ hb)⟩
      obtain ⟨y, hy, ey⟩ := List.mem_map.mp hm
      exact nd.1 (inj y (.tail _ hy) x (.head _) ey ▸ hy)
  exact gen _ (firstsN_nodup κ n) fun a ha b hb => firstsN_inj κ ha hb
theorem firstsN_filter (κ : Nat → List Nat) : ∀ n, (List.range n).filter (fun k => !(firstsN κ k).any (fun f => κ f == κ k)) = firstsN κ n
  | 0 => rfl
  | n + 1 => by
    rw [List.range_succ, List.filter_append, firstsN_filter κ n, firstsN]
    cases h : (firstsN κ n).any (fun f => κ f == κ n) <;> simp [h]
theorem firstsN_any (κ : Nat → List Nat) {n : Nat} : (firstsN κ n).any (fun f => κ f == κ n) = true ↔ ∃ j, j < n ∧ κ j = κ n := by
  rw [List.any_eq_true]
  constructor
  · rintro ⟨f, hf, e⟩
    exact ⟨f, firstsN_lt κ hf, by simpa using e⟩
  · rintro ⟨j, hj, e⟩
    obtain ⟨f, hf, e2⟩ := firstsN_all κ hj
    exact ⟨f, hf, by simpa using e2.trans e⟩
theorem firstsN_len (κ : Nat → List Nat) : ∀ n, (firstsN κ n).length ≤ n
  | 0 => Nat.le_refl _
  | n + 1 => by
    have := firstsN_len κ n
    rw [firstsN]; split
    · omega
    · rw [List.length_append, List.length_singleton]; omega
theorem rowsN_le (κ : Nat → List Nat) (n : Nat) : (rowsN κ n).length ≤ n := by rw [rowsN_len]; exact firstsN_len κ n
theorem membersN_le (κ : Nat → List Nat) (n f : Nat) : (membersN κ n f).length ≤ n := by
  unfold membersN
  rw [List.length_map]
  exact Nat.le_trans (List.length_filter_le _ _) (by simp)

theorem rowsN_row_len (κ : Nat → List Nat) {n : Nat} {p : List Nat × List Int} (h : p ∈ rowsN κ n) : p.2.length ≤ n + 1 := by
  obtain ⟨c, _, rfl⟩ := List.mem_map.mp h
  have := membersN_le κ n ((firstsN κ n).getD c 0)
  simpa using this
/-- a row of the book as it stands -/
structure RowH where
  key : List Nat
  hsh : Int
  tok : Tok
  addr : Addr
  items : List Value
  cap : Nat
def RowH.entry (r : RowH) : DictEntry := ⟨r.hsh, .str (tx r.key) r.tok, .ref r.addr⟩
def RowH.led (r : RowH) : Addr × Obj := (r.addr, ⟨.type "list", none, .seq r.items.toArray r.cap, #[]⟩)
inductive RowsAre : List RowH → List (List Nat × List Int) → Prop
  | nil : RowsAre [] []
  | cons {r : RowH} {p : List Nat × List Int} {rs : List RowH} {ps : List (List Nat × List Int)} : r.key = p.1 → IntsAre r.items p.2 → RowsAre rs ps → RowsAre (r :: rs) (p :: ps)
theorem RowsAre.length {rs : List RowH} {ps : List (List Nat × List Int)} (H : RowsAre rs ps) : rs.length = ps.length := by
  induction H with
  | nil => rfl
  | cons _ _ _ ih => rw [List.length_cons, List.length_cons, ih]
theorem RowsAre.snoc {rs : List RowH} {ps : List (List Nat × List Int)} (H : RowsAre rs ps) {r : RowH} {p : List Nat × List Int} (hk : r.key = p.1) (hi : IntsAre r.items p.2) : RowsAre (rs ++ [r]) (ps ++ [p]) := by
  induction H with
  | nil => exact .cons hk hi .nil
  | cons a b _ ih => exact .cons a b ih
def findR (rs : List RowH) (key : List Nat) : Option Value := ((rs.map RowH.entry).find? fun e => e.key.isStr (tx key)).map (·.val)
theorem isStr_tx (a b : List Nat) (t : Tok) : (Value.str (tx a) t).isStr (tx b) = (a == b) := by
  show (tx a == tx b) = (a == b)
  by_cases h : a = b
  · subst h; simp
  · have : ¬ tx a = tx b := fun e => h (tx_inj e)
    have h1 : (tx a == tx b) = false := by simpa using this
    have h2 : (a == b) = false := by simpa using h
    rw [h1, h2]
theorem findR_cons (r : RowH) (rs : List RowH) (key : List Nat) : findR (r :: rs) key = if r.key == key then some (.ref r.addr) else findR rs key := by
  unfold findR
  rw [List.map_cons, List.find?_cons]
  show (match (Value.str (tx r.key) r.tok).isStr (tx key) with | true => _ | false => _ : Option DictEntry).map _ = _
  rw [isStr_tx]
  cases h : r.key == key <;> simp [RowH.entry]
theorem findR_none {rs : List RowH} {ps : List (List Nat × List Int)} (H : RowsAre rs ps) {key : List Nat} : findR rs key = none ↔ ps.any (fun p => p.1 == key) = false := by
  induction H with
  | nil => simp [findR]
  | cons a b _ ih =>
    rw [findR_cons, List.any_cons, a]
    rename_i r p rs ps _
    cases h : p.1 == key
    · simp only [Bool.false_eq_true, if_false, Bool.false_or]; exact ih
    · simp
/-- the row that is found, and what turning it comes to -/
theorem findR_some {rs : List RowH} {ps : List (List Nat × List Int)} (H : RowsAre rs ps) {key : List Nat} {v : Value} (nd : (ps.map (·.1)).Nodup) (h : findR rs key = some v) :
    ∃ pre r post p, rs = pre ++ r :: post ∧ r.key = key ∧ v = .ref r.addr ∧ p ∈ ps ∧ p.1 = key ∧ IntsAre r.items p.2 ∧ ∀ (r' : RowH) (f : List Int → List Int), r'.key = key → IntsAre r'.items (f p.2) → RowsAre (pre ++ r' :: post) (ps.map fun p => if p.1 == key then (p.1, f p.2) else p) := by
  induction H with
  | nil => simp [findR] at h
  | cons a b H ih =>
    rename_i r p rs ps
    have nd := List.nodup_cons.mp (show (p.1 :: ps.map (·.1)).Nodup from nd)
    rw [findR_cons] at h
    by_cases q : (r.key == key) = true
    · rw [if_pos q] at h
      have q : r.key = key := by simpa using q
      have qp : p.1 = key := a ▸ q
      refine ⟨[], r, rs, p, rfl, q, (Option.some.inj h).symm, .head _, qp, b, fun r' f hk hi => ?_⟩
      rw [List.map_cons, if_pos (by simpa using qp)]
      refine .cons (hk.trans qp.symm) hi ?_
      have : (ps.map fun p => if p.1 == key then (p.1, f p.2) else p) = ps := by
        refine (List.map_congr_left fun x hx => ?_).trans (List.map_id _)
        rw [if_neg]; rfl
        intro e
        have e : x.1 = key := by simpa using e
        exact nd.1 (qp ▸ e ▸ List.mem_map_of_mem hx)
      rw [this]; exact H
    · rw [if_neg q] at h
      obtain ⟨pre, r₀, post, p₀, e1, e2, e3, e4, e5, e6, e7⟩ := ih nd.2 h
      refine ⟨r :: pre, r₀, post, p₀, by rw [e1]; rfl, e2, e3, .tail _ e4, e5, e6, fun r' f hk hi => ?_⟩
      rw [List.map_cons, if_neg (by rw [← a]; exact q)]
      exact .cons a b (e7 r' f hk hi)

theorem rowsN_get (κ : Nat → List Nat) {n : Nat} {p : List Nat × List Int} (h : p ∈ rowsN κ n) : ∃ c f, c < (firstsN κ n).length ∧ f ∈ firstsN κ n ∧ p = (κ f, (c : Int) :: membersN κ n f) := by
  obtain ⟨c, hc, rfl⟩ := List.mem_map.mp h
  have hc := List.mem_range.mp hc
  exact ⟨c, (firstsN κ n).getD c 0, hc, by rw [List.getD_eq_getElem?_getD, List.getElem?_eq_getElem hc]; exact List.getElem_mem _, rfl⟩
theorem membersN_self (κ : Nat → List Nat) {n f : Nat} (h : f ∈ firstsN κ n) : (f : Int) ∈ membersN κ n f :=
  List.mem_map.mpr ⟨f, List.mem_filter.mpr ⟨List.mem_range.mpr (firstsN_lt κ h), by simp⟩, rfl⟩
theorem membersN_key (κ : Nat → List Nat) {n f : Nat} {x : Int} (h : x ∈ membersN κ n f) : ∃ m : Nat, x = m ∧ m < n ∧ κ m = κ f := by
  obtain ⟨m, hm, rfl⟩ := List.mem_map.mp h
  obtain ⟨a, b⟩ := List.mem_filter.mp hm
  exact ⟨m, rfl, List.mem_range.mp a, by simpa using b⟩
def likeN (κ : Nat → List Nat) (n : Nat) (key : List Nat) : List Int := ((List.range n).filter fun k => κ k == key).map fun (m : Nat) => (m : Int)
/-- the key is met: the like ones are the row's, the row alone has them -/
theorem likeN_some (κ : Nat → List Nat) {n : Nat} {key : List Nat} {p : List Nat × List Int} (h : p ∈ rowsN κ n) (hk : p.1 = key) :
    likeN κ n key ≠ [] ∧ ∃ c, c < (rowsN κ n).length ∧ (rowsN κ n).getD c ([], []) = p ∧ (List.range (rowsN κ n).length).filter (fun j => decide (((rowsN κ n).getD j ([], [])).2.drop 1 = likeN κ n key)) = [c] := by
  obtain ⟨c, f, hc, hf, rfl⟩ := rowsN_get κ h
  subst hk
  have e : likeN κ n (κ f) = membersN κ n f := rfl
  refine ⟨fun q => by have := membersN_self κ hf; rw [← e, q] at this; exact absurd this List.not_mem_nil, ?_⟩
  obtain ⟨c', hc', ec⟩ := List.mem_iff_getElem.mp h
  have hg : (rowsN κ n).getD c' ([], []) = (κ f, (c : Int) :: membersN κ n f) := by rw [List.getD_eq_getElem?_getD, List.getElem?_eq_getElem hc', ec]; rfl
  refine ⟨c', hc', hg, ?_⟩
  have uniq : ∀ j, j < (rowsN κ n).length → (decide (((rowsN κ n).getD j ([], [])).2.drop 1 = likeN κ n (κ f)) = decide (j = c')) := by
    intro j hj
    have hm : (rowsN κ n).getD j ([], []) ∈ rowsN κ n := by rw [List.getD_eq_getElem?_getD, List.getElem?_eq_getElem hj]; exact List.getElem_mem _
    obtain ⟨c2, f2, hc2, hf2, e2⟩ := rowsN_get κ hm
    rw [e2, e]
    show decide (membersN κ n f2 = membersN κ n f) = _
    rw [decide_eq_decide]
    constructor
    · intro q
      have m2 := membersN_self κ hf2
      rw [q] at m2
      obtain ⟨m, e3, _, e4⟩ := membersN_key κ m2
      have : f2 = m := by omega
      subst this
      have nd := rowsN_keys κ n
      have P := List.pairwise_iff_getElem.mp nd
      have k1 : ((rowsN κ n).map (·.1))[j]'(by simpa using hj) = κ f2 := by
        have : (rowsN κ n)[j] = (κ f2, (c2 : Int) :: membersN κ n f2) := by rw [List.getD_eq_getElem?_getD, List.getElem?_eq_getElem hj] at e2; exact e2
        simp [this]
      have k2 : ((rowsN κ n).map (·.1))[c']'(by simpa using hc') = κ f := by simp [ec]
      rcases Nat.lt_trichotomy j c' with h | h | h
      · exact absurd (k1.trans (e4.trans k2.symm)) (P j c' (by simpa using hj) (by simpa using hc') h)
      · exact h
      · exact absurd (k2.trans (e4.symm.trans k1.symm)) (P c' j (by simpa using hc') (by simpa using hj) h)
    · intro q
      subst q
      rw [e2] at hg
      have h2 : ((c2 : Int) :: membersN κ n f2) = (c : Int) :: membersN κ n f := congrArg Prod.snd hg
      exact (List.cons.inj h2).2
  rw [List.filter_congr (q := fun j => decide (j = c')) fun j hj => uniq j (List.mem_range.mp hj)]
  have gen : ∀ N, c' < N → (List.range N).filter (fun j => decide (j = c')) = [c'] := by
    intro N
    induction N with
    | zero => intro h; exact absurd h (Nat.not_lt_zero _)
    | succ N ih =>
      intro h
      rw [List.range_succ, List.filter_append]
      by_cases q : c' = N
      · subst q
        have : (List.range c').filter (fun j => decide (j = c')) = [] := List.filter_eq_nil_iff.mpr fun a ha => by have := List.mem_range.mp ha; simp; omega
        rw [this]; simp
      · rw [ih (by omega)]
        have : ¬ N = c' := fun e => q e.symm
        simp [this]
  exact gen _ hc'
/-- the key is not met: none is like it, no row is -/
theorem likeN_none (κ : Nat → List Nat) {n : Nat} {key : List Nat} (h : (rowsN κ n).any (fun p => p.1 == key) = false) :
    likeN κ n key = [] ∧ (List.range (rowsN κ n).length).filter (fun j => decide (((rowsN κ n).getD j ([], [])).2.drop 1 = likeN κ n key)) = [] := by
  rw [rowsN_any] at h
  have no : ∀ f ∈ firstsN κ n, κ f ≠ key := fun f hf q => by
    have : (firstsN κ n).any (fun f => κ f == key) = true := List.any_eq_true.mpr ⟨f, hf, by simpa using q⟩
    rw [h] at this; cases this
  have e : likeN κ n key = [] := by
    unfold likeN
    rw [List.map_eq_nil_iff, List.filter_eq_nil_iff]
    intro m hm q
    obtain ⟨f, hf, e⟩ := firstsN_all κ (List.mem_range.mp hm)
    exact no f hf (e.trans (by simpa using q))
  refine ⟨e, List.filter_eq_nil_iff.mpr fun j hj => ?_⟩
  have hj := List.mem_range.mp hj
  have hm : (rowsN κ n).getD j ([], []) ∈ rowsN κ n := by rw [List.getD_eq_getElem?_getD, List.getElem?_eq_getElem hj]; exact List.getElem_mem _
  obtain ⟨c2, f2, hc2, hf2, e2⟩ := rowsN_get κ hm
  rw [e2, e]
  show ¬ decide (membersN κ n f2 = []) = true
  intro q
  have := membersN_self κ hf2
  rw [of_decide_eq_true q] at this
  exact absurd this List.not_mem_nil

local macro_rules | `(tactic| walk_at "look") => `(tactic| first | assumption | with_reducible exact look_hit | ((with_reducible refine look_skip ?lne ?_); (case lne => decide +kernel); walk_at "look") | (dsimp only; walk_at "look"))
local macro_rules | `(tactic| walk_at "kfill") => `(tactic| skip)
/-- quick steps: each by its head -/
local macro_rules | `(tactic| walk_at "m") => `(tactic| first
  | with_reducible refine wpAny_execs_cons ?_
  | with_reducible refine wpAny_execs_nil ?_
  | with_reducible refine wpAny_BinOp ?_
  | with_reducible refine wpAny_Constant_int ?_
  | with_reducible refine Calls.Constant_str ?_
  | with_reducible refine wpAny_Constant_none ?_
  | with_reducible refine wpAny_Constant_bool ?_
  | with_reducible refine wpAny_Return_some ?_
  | with_reducible refine wpAny_If ?_
  | with_reducible refine wpAny_Break ?_
  | ((with_reducible refine' wpAny_isTrue_Compare1 ?_ ?hmk); (case hmk => exact rfl))
  | ((with_reducible refine' wpAny_Compare1 ?_ ?hmk); (case hmk => exact rfl))
  | ((with_reducible refine' wpAny_Assign_Name ?_ ?hmk); (case hmk => exact rfl))
  | with_reducible refine wpAny_truthy_bool ?_
  | ((with_reducible refine' mod_int' ?nz ?_); (case nz => first | decide | omega))
  | ((with_reducible refine' floordiv_int ?nz ?_); (case nz => first | decide | omega))
  | with_reducible refine PyProof.Rows.add_int ?_
  | with_reducible refine PyProof.Rows.sub_int ?_
  | with_reducible refine PyProof.Rows.eq_int ?_
  | with_reducible refine PyProof.Rows.eq_str ?_
  | ((with_reducible refine' wpAny_items_cons ?_ ?hmk); (case hmk => exact rfl))
  | with_reducible refine wpAny_items_nil ?_
  )
local macro_rules | `(tactic| walk_at "mL") => `(tactic| ((with_reducible refine' ldL ?F ?hv ?_ ?a ?b ?c); (case F => assumption); (case hv => (try dsimp only); walk_at "look"); (case a => exact rfl); (case b => exact rfl); (case c => exact rfl)))
local macro_rules | `(tactic| walk_at "mS") => `(tactic| ((with_reducible refine' stL ?F ?_ ?a ?b); (case F => assumption); (case a => exact rfl); (case b => exact rfl)))
local macro_rules | `(tactic| walk_at "mB") => `(tactic| ((with_reducible refine' ldBi ?G ?hm ?hb ?_ ?a ?b ?c ?d ?e ?f); (case G => assumption); (case hm => assumption); (case hb => first | exact bb_range | exact bb_len | exact bb_tuple | exact bb_list | exact bb_getattr | exact bb_super); (case a => exact rfl); (case b => exact rfl); (case c => exact rfl); (case d => exact rfl); (case e => exact rfl); (case f => decide)))
local macro_rules | `(tactic| walk_at "mG") => `(tactic| ((with_reducible refine' ldGlob ?G ?hm ?_ ?a ?b ?c ?d); (case G => assumption); (case hm => assumption); (case a => exact rfl); (case b => exact rfl); (case c => exact rfl); (case d => exact rfl)))
local macro_rules | `(tactic| walk_at "mCall") => `(tactic| ((with_reducible refine' Call_ ?_ ?hmk); (case hmk => exact rfl)))
local macro_rules | `(tactic| walk_at "mMeth") => `(tactic| ((with_reducible refine' MethodCall_ ?_ ?hmk); (case hmk => exact rfl)))
local macro_rules | `(tactic| walk_at "mArgB") => `(tactic| ((with_reducible refine' PyProof.Rows.callWith_builtin1 ?_ ?hmk ?hml); (case hmk => exact rfl); (case hml => exact rfl)))
local macro_rules | `(tactic| walk_at "mArgT") => `(tactic| ((with_reducible refine' PyProof.Rows.callWith_type1 ?_ ?hmk ?hml); (case hmk => exact rfl); (case hml => exact rfl)))
local macro_rules | `(tactic| walk_at "mFor") => `(tactic| ((with_reducible refine' wpAny_For ?_ ?hmk); (case hmk => intro _; exact rfl)))
local macro_rules | `(tactic| walk_at "ms") => `(tactic| (repeat ((first | walk_at "m" | walk_at "mL"); (try dsimp only))))
local macro_rules | `(tactic| walk_at "lk") => `(tactic| (refine ⟨?_, ?_, ?_, ?_, ?_, ?_, ?_⟩ <;> walk_at "look"))
local macro_rules | `(tactic| walk_at "mN") => `(tactic| ((with_reducible refine' ldNs ?hn ?hv ?_ ?a ?b ?c); (case hn => assumption); (case hv => walk_at "look"); (case a => exact rfl); (case b => exact rfl); (case c => exact rfl)))

theorem Fm.fresh {I h : Heap} {L a : Addr} {m : Str → Option Value} {mu : Led} (F : Fm I L h m mu) (ha : h.objs.size ≤ a) : I.get? a = none ∧ a ≠ L ∧ ∀ p ∈ mu, p.1 ≠ a :=
  ⟨isNone_of fun o e => absurd (Heap.lt_size (F.keep _ _ e)) (Nat.not_lt.mpr ha), fun q => absurd F.ns.lt (Nat.not_lt.mpr (q ▸ ha)), fun p hp q => absurd (Heap.lt_size (F.mus p hp).1) (Nat.not_lt.mpr (q ▸ ha))⟩

theorem mg_facts {w : World} {mg mb : Str → Option Value} {I : Heap} (G : Gd w mg mb I) : mg "range" = none ∧ mg "len" = none ∧ mg "tuple" = none ∧ mg "getattr" = none ∧ mg "super" = none ∧ mg "list" = none := by
  refine ⟨mg_none_of G.kin G.g ?_, mg_none_of G.kin G.g ?_, mg_none_of G.kin G.g ?_, mg_none_of G.kin G.g ?_, mg_none_of G.kin G.g ?_, mg_none_of G.kin G.g ?_⟩ <;> exact rfl
theorem mg_own {w : World} {mg mb : Str → Option Value} {I : Heap} (G : Gd w mg mb I) : mg "_law_lead" = some (.ref 142) ∧ mg "_law_columns" = some (.ref 149) ∧ mg "_law_spelled" = some (.ref 154) ∧ mg "_law_numbered" = some (.ref 161) ∧
    mg "_law_lookups_are_right" = some (.ref 166) ∧ mg "Whitespace" = some (.ref 131) ∧ mg "FreezableDefaultDict" = some (.ref 65) := by
  refine ⟨mg_of G.kin G.g ?_, mg_of G.kin G.g ?_, mg_of G.kin G.g ?_, mg_of G.kin G.g ?_, mg_of G.kin G.g ?_, mg_of G.kin G.g ?_, mg_of G.kin G.g ?_⟩ <;> exact rfl

local macro_rules | `(tactic| walk_at "lead") => `(tactic| first
  | walk_at "m"
  | walk_at "mL"
  | ((with_reducible refine' PyProof.Rows.add_str (hsz := ?hsz) ?_); (case hsz => (simp only [sp_is, tab_is, x_is, mul_len, tx_len, Str.length_append, sizeLine_eq, List.length_cons, List.length_nil]; omega)); intro _ _)
  | ((with_reducible refine' SB.mul ?k ?_); (case k => exact mulOk_of 16 1048576 (by decide) (by omega) (by omega) (by decide) (by decide)); intro _ _))
set_option maxHeartbeats 4000000 in
theorem lead_spec (w : World) (mg mb : Str → Option Value) :
  ∀ (x : Int) (t : Tok) (A : Around) (s : Shared) (R : Result → Shared → Prop),
    Gd w mg mb s.heap → Rm A 3 40 → 0 ≤ x → x < 1000000 →
    (∀ (t : Tok) (h' : Heap) (tk' : Nat), s.heap.StaysIn h' → R (.ok (.ret (.str (tx (leadL x.toNat)) t))) { s with heap := h', toks := tk' }) →
      codeAny (model PySem.Challenge.rw_in0106_01.row.prog w) A (.call (.ref 142) ⟨[.int x t], []⟩) R s := by
  intro x t A s R G rm h0 h1 hret
  have X1 := G.kin
  revert X1
  k_fill
  intro X1
  have lim := G.lim
  obtain ⟨h, g, d, tk, os⟩ := s
  dsimp only at G X1 lim hret
  k_dflt (refine' enter (dd := 2) (u := 37) (binds := [(Str.ofString "x", .int x t)]) X1 lim rm ?k6 ?k7 ?k9 ?kB ?_ ?c2 ?c3 ?c4 ?c5; (case k6 => k_is); (case k7 => k_is); (case k9 => exact BindsTo.of_eq rfl); (case c5 => decide); (case kB => exact locs rfl); (case c2 => exact rfl); (case c3 => exact rfl); (case c4 => exact rfl))
  intro L h₁ tk₁ A' E' m F0 hm rmA
  dsimp only at F0 ⊢
  have F := Fm.of_fr F0
  have m0 : m (Str.ofString "x") = some (.int x t) := hm ▸ rfl
  clear hm
  have e := lead_eq x h0
  have m3 : (x.fmod 3).toNat < 3 ∧ x.fmod 3 < 3 ∧ 0 ≤ x.fmod 3 := by have := (fdiv_fmod_facts x 3); omega
  have m2 : ((x.fdiv 3).fmod 2).toNat < 2 ∧ (x.fdiv 3).fmod 2 < 2 ∧ 0 ≤ (x.fdiv 3).fmod 2 := by have := (fdiv_fmod_facts (x.fdiv 3) 2); omega
  have m6 : ((x.fdiv 6).fmod 3).toNat < 3 ∧ (x.fdiv 6).fmod 3 < 3 ∧ 0 ≤ (x.fdiv 6).fmod 3 := by have := (fdiv_fmod_facts (x.fdiv 6) 3); omega
  have m18 : ((x.fdiv 18).fmod 3).toNat < 3 ∧ (x.fdiv 18).fmod 3 < 3 ∧ 0 ≤ (x.fdiv 18).fmod 3 := by have := (fdiv_fmod_facts (x.fdiv 18) 3); omega
  have m54 : ((x.fdiv 54).fmod 3).toNat < 3 ∧ (x.fdiv 54).fmod 3 < 3 ∧ 0 ≤ (x.fdiv 54).fmod 3 := by have := (fdiv_fmod_facts (x.fdiv 54) 3); omega
  repeat' (walk_at "lead"; (try dsimp only))
  refine (e ▸ hret _ _ _ ?_)
  exact F0.keep

set_option maxHeartbeats 4000000 in
theorem columns_spec (w : World) (mg mb : Str → Option Value) :
  ∀ (l : List Nat) (t : Tok) (A : Around) (s : Shared) (R : Result → Shared → Prop),
    Gd w mg mb s.heap → Rm A 3 40 → l.length ≤ 100 →
    (∀ (D : Addr) (vs : List Value) (h' : Heap) (tk' : Nat), s.heap.StaysIn h' → s.heap.get? D = none → h'.PlainList D vs.toArray → IntsAre vs (colsL l) → R (.ok (.ret (.ref D))) { s with heap := h', toks := tk' }) →
      codeAny (model PySem.Challenge.rw_in0106_01.row.prog w) A (.call (.ref 149) ⟨[.str (tx l) t], []⟩) R s := by
  intro l t A s R G rm hl hret
  have X1 := G.kin
  revert X1
  k_fill
  intro X1
  have lim := G.lim
  obtain ⟨mrange, mlen, mtuple, mgetattr, msuper, mlist⟩ := mg_facts G
  obtain ⟨h, g, d, tk, os⟩ := s
  dsimp only at G X1 lim hret
  k_dflt (refine' enter (dd := 2) (u := 37) (binds := [(Str.ofString "text", .str (tx l) t)]) X1 lim rm ?k6 ?k7 ?k9 ?kB ?_ ?c2 ?c3 ?c4 ?c5; (case k6 => k_is); (case k7 => k_is); (case k9 => exact BindsTo.of_eq rfl); (case c5 => decide); (case kB => exact locs rfl); (case c2 => exact rfl); (case c3 => exact rfl); (case c4 => exact rfl))
  intro L h₁ tk₁ A' E' m F0 hm rmA
  dsimp only at F0 ⊢
  have F := Fm.of_fr F0
  have m0 : m (Str.ofString "text") = some (.str (tx l) t) := hm ▸ rfl
  clear hm
  try dsimp only
  walk_at "ms"
  refine wpAny_List ?_
  walk_at "ms"
  refine ⟨by decide, ?_⟩
  have F1 := F.push (⟨.type "list", none, .seq #[] 0, #[]⟩ : Obj)
  walk_at "mS"
  intro h2 F2
  dsimp only
  walk_at "ms"
  have G2 : Gd w mg mb h2 := G.keeps F2.keep
  walk_at "mFor"
  walk_at "mCall"
  walk_at "mB"
  walk_at "mArgT"
  walk_at "ms"
  refine iter_range2 (n := 7) rfl (by decide) fun It h4 tk4 k4 l4 hst => ?_
  have F4 := F2.pure k4
  have fr := F2.fresh l4
  have fr' := fr.2.2 _ (.head _)
  have W1 := Walks.range (prog := PySem.Challenge.rw_in0106_01.row.prog) (w := w) rmA.handled It 1 1 7
  refine forW W1 (fun i hh => ∃ m ys k, Fm h L hh m [(h₁.objs.size, ⟨.type "list", none, .seq (List.toArray ys) k, #[]⟩)] ∧ IntsAre ys ((List.range i).map fun (j : Nat) => colGo (1 + (j : Int) * 1) l 0) ∧ m (Str.ofString "text") = some (.str (tx l) t) ∧ m (Str.ofString "told") = some (.ref h₁.objs.size)) hst ?_ ?_ ?_ ?_
  · exact ⟨_, [], 0, F4, ints_nil, by walk_at "look", by walk_at "look"⟩
  · rintro i h h' ⟨m, ys, k, F, hi, m1, m2⟩ hk
    exact ⟨m, ys, k, F.other hk (fun q => fr.2.1 (List.mem_singleton.mp q).symm) (fun b hb => by rw [List.mem_singleton.mp hb]; exact fr.1) (fun p hp q => by rw [List.mem_singleton.mp hp] at q; exact fr' (List.mem_singleton.mp q)), hi, m1, m2⟩
  · rintro i v hh tk5 E' hi ⟨tv, rfl⟩ ⟨m, ys, k, F, hys, m1, m2⟩ hst
    obtain ⟨I₂, hII, F, hab⟩ := F.absorb
    walk_at "mS"
    intro h6 F6
    dsimp only
    walk_at "ms"
    walk_at "mS"
    intro h7 F7
    dsimp only
    walk_at "ms"
    walk_at "mFor"
    walk_at "ms"
    refine iter_str fun It2 h8 St2 k8 l8 W2 hlive2 hst2 => ?_
    have fr2 := F7.fresh l8
    have fr2' := fr2.2.2 _ (.head _)
    have W3 := W2 _ rmA.handled
    refine codeAny_mono (R := fun r s' => r = .ok .next ∧ ∃ h' tk' m tc, s' = ⟨h', g, d, tk', os⟩ ∧ Fm I₂ L h' m [(h₁.objs.size, ⟨.type "list", none, .seq (List.toArray ys) k, #[]⟩)] ∧ m (Str.ofString "text") = some (.str (tx l) t) ∧ m (Str.ofString "told") = some (.ref h₁.objs.size) ∧
      m (Str.ofString "column") = some (.int (colGo (1 + (i : Int) * 1) l 0) tc)) (forW W3 (fun j hh => ∃ m c tc, Fm I₂ L hh m [(h₁.objs.size, ⟨.type "list", none, .seq (List.toArray ys) k, #[]⟩)] ∧ m (Str.ofString "text") = some (.str (tx l) t) ∧ m (Str.ofString "told") = some (.ref h₁.objs.size) ∧ 
      m (Str.ofString "size") = some (.int (1 + (i : Int) * 1) tv) ∧ m (Str.ofString "column") = some (.int c tc) ∧ colGo (1 + (i : Int) * 1) (l.drop j) c = colGo (1 + (i : Int) * 1) l 0) hst2 ?_ ?_ ?_ ?_) ?_
    · exact ⟨_, 0, _, F7.pure k8, (by walk_at "look"), (by walk_at "look"), (by walk_at "look"), (by walk_at "look"), rfl⟩
    · rintro i h h' ⟨m, c, tc, F, r⟩ hk
      exact ⟨m, c, tc, F.other hk (fun q => fr2.2.1 (List.mem_singleton.mp q).symm) (fun b hb => by rw [List.mem_singleton.mp hb]; exact fr2.1) (fun p hp q => by rw [List.mem_singleton.mp hp] at q; exact fr2' (List.mem_singleton.mp q)), r⟩
    · rintro j v hh8 tk9 E2 hj ⟨k8, tv8, hk8, rfl⟩ ⟨m, c, tc, F, m3, m4, m5, m6, hc⟩ hst8
      have hlj : l.drop j = k8 :: l.drop (j + 1) := by
        have : l[j]? = some k8 := by simpa [tx] using hk8
        obtain ⟨hj, e⟩ := List.getElem?_eq_some_iff.mp this
        rw [← e]; exact List.drop_eq_getElem_cons hj
      rw [hlj] at hc
      obtain ⟨I₃, hII3, F, hab3⟩ := F.absorb
      walk_at "mS"
      intro h9 F9
      dsimp only
      walk_at "ms"
      have kp : ∀ h', I₃.StaysIn h' → ∀ b ∈ [It2], ∀ o, hh8.get? b = some o → h'.get? b = some o := fun h' k b hb o e => k b o (hab3 b o e (fun q => fr2.2.1 (q ▸ List.mem_singleton.mp hb).symm) (fun q => by
        obtain ⟨p, hp, e⟩ := List.mem_map.mp q
        rw [List.mem_singleton.mp hp] at e
        exact fr2' (e.trans (List.mem_singleton.mp hb))))
      rw [show ((⟨#[k8]⟩ : Str) == Str.ofString " ") = decide (k8 = 32) from by rw [sp_is]; exact sign_eq _ _]
      by_cases q : k8 = 32
      · rw [if_pos (by simpa using q)]
        walk_at "ms"
        walk_at "mS"
        intro h10 F10
        dsimp only
        walk_at "ms"
        exact ⟨_, _, rfl, ⟨_, c + 1, _, F10.weak hII3, (by walk_at "look"), (by walk_at "look"), (by walk_at "look"), (by walk_at "look"), (by rw [← hc]; simp only [colGo]; rw [if_pos q])⟩, kp _ F10.keep⟩
      · rw [if_neg (by simpa using q)]
        walk_at "ms"
        rw [show ((⟨#[k8]⟩ : Str) == Str.ofString "\t") = decide (k8 = 9) from by rw [tab_is]; exact sign_eq _ _]
        by_cases q2 : k8 = 9
        · rw [if_pos (by simpa using q2)]
          walk_at "ms"
          walk_at "mS"
          intro h10 F10
          dsimp only
          walk_at "ms"
          exact ⟨_, _, rfl, ⟨_, c - c.fmod (1 + (i : Int) * 1) + (1 + (i : Int) * 1), _, F10.weak hII3, (by walk_at "look"), (by walk_at "look"), (by walk_at "look"), (by walk_at "look"), (by rw [← hc]; simp only [colGo]; rw [if_neg q, if_pos q2])⟩, kp _ F10.keep⟩
        · rw [if_neg (by simpa using q2)]
          walk_at "ms"
          have hc' : c = colGo (1 + (i : Int) * 1) l 0 := by rw [← hc]; simp only [colGo]; rw [if_neg q, if_neg q2]
          exact ⟨rfl, _, _, _, tc, rfl, F9.weak hII3, (by walk_at "look"), (by walk_at "look"), hc' ▸ (by walk_at "look")⟩
    · rintro hh8 tk9 ⟨m, c, tc, F, m3, m4, m5, m6, hc⟩
      have : l.drop (tx l).cps.size = [] := by simp [tx]
      rw [this] at hc
      exact ⟨rfl, _, _, _, tc, rfl, F, m3, m4, by rw [m6, ← hc]; rfl⟩
    · rintro r s' ⟨rfl, h9, tk9, m, tc, rfl, F9, m3, m4, m5⟩
      dsimp only
      walk_at "ms"
      refine wpAny_Expr ?_
      walk_at "mMeth"
      walk_at "ms"
      refine getMethod_append_N F9.mus (.head _) ?_
      refine callWith_method1 ?_
      walk_at "ms"
      have hsz : ys.toArray.size ≤ sizeLine := by have := hys.length; rw [List.length_map, List.length_range] at this; rw [List.size_toArray, sizeLine_eq]; omega
      refine wpAny_list_append_plain (hsz := hsz) ⟨k, F9.get (.head _)⟩ fun h10 hl10 hs10 => ?_
      obtain ⟨k', hl10⟩ := hl10
      have F10 := Fm.upd (pre := []) (post := []) F9 hs10 hl10
      dsimp only
      walk_at "ms"
      refine ⟨_, _, rfl, ⟨m, ys ++ [.int (colGo (1 + (i : Int) * 1) l 0) tc], k', ?_, ?_, m3, m4⟩, ?_⟩
      · have e : ys.toArray.push (Value.int (colGo (1 + (i : Int) * 1) l 0) tc) = (ys ++ [Value.int (colGo (1 + (i : Int) * 1) l 0) tc]).toArray := by simp
        rw [e] at F10
        exact F10.weak hII
      · rw [List.range_succ, List.map_append]; exact ints_snoc hys
      · intro b hb o e
        refine F10.keep b o (hab b o e (fun q => fr.2.1 (q ▸ List.mem_singleton.mp hb).symm) (fun q => ?_))
        obtain ⟨p, hp, e⟩ := List.mem_map.mp q
        rw [List.mem_singleton.mp hp] at e
        exact fr' (e.trans (List.mem_singleton.mp hb))
  · rintro hh tk5 ⟨m, ys, k, F, hys, m1, m2⟩
    dsimp only
    walk_at "ms"
    refine hret _ ys _ _ F.keep (isNone_of fun o e => ?_) ⟨k, F.get (.head _)⟩ hys
    have := (F.mus _ (.head _)).2.2
    rw [e] at this; cases this

/-- a filled Whitespace, for the signs l -/
def LeadAt (h : Heap) (x : Addr) (l : List Nat) : Prop := ∃ dx es n tn tc k1 k2 ws tb, h.get? x = some (instObj 131 dx) ∧ h.get? dx = some (dictOf es n) ∧ getL (Str.ofString "norm") es = some (some (.ref tn)) ∧ getL (Str.ofString "equal") es = some none ∧
  h.get? tn = some (tupO [.ref tc, .int (normL l).2 tb] k1) ∧ h.get? tc = some (tupO ws k2) ∧ IntsAre ws (normL l).1
theorem LeadAt.keeps {h h' : Heap} {x : Addr} {l : List Nat} (H : LeadAt h x l) (k : h.StaysIn h') : LeadAt h' x l := by
  obtain ⟨dx, es, n, tn, tc, k1, k2, ws, tb, a, b, c, d, e, f, g⟩ := H
  exact ⟨dx, es, n, tn, tc, k1, k2, ws, tb, k _ _ a, k _ _ b, c, d, k _ _ e, k _ _ f, g⟩

/-- what the filling frame's names hold -/
structure InitN (m : Str → Option Value) (x Dc : Addr) (b nn nt : Int) (tS tT tb tn tt : Tok) : Prop where
  self : m (Str.ofString "self") = some (.ref x)
  S : m (Str.ofString "S") = some (.str (Str.ofString " ") tS)
  T : m (Str.ofString "T") = some (.str (Str.ofString "\t") tT)
  count : m (Str.ofString "count") = some (.ref Dc)
  b : m (Str.ofString "b") = some (.int b tb)
  n : m (Str.ofString "n") = some (.int nn tn)
  nt : m (Str.ofString "nt") = some (.int nt tt)
def InitI (I : Heap) (L x dx : Addr) (es1 : List DictEntry) (n1 : Nat) (It : Addr) (h : Heap) (cs : List Int) (b : Nat) : Prop :=
  ∃ m Dc ys k nn nt tS tT tb tn tt, Fm I L h m [(Dc, listO ys k), (x, instObj 131 dx), (dx, dictOf es1 n1)] ∧ Dc ≠ It ∧ IntsAre ys cs ∧ InitN m x Dc (b : Int) nn nt tS tT tb tn tt

/-- the parts of a lead that are new since I -/
def LeadNew (I h : Heap) (x : Addr) (l : List Nat) : Prop := ∀ I' : Heap, (∀ b o, h.get? b = some o → I.get? b = none → I'.get? b = some o) → LeadAt I' x l
theorem LeadNew.here {I h : Heap} {x : Addr} {l : List Nat} (H : LeadNew I h x l) : LeadAt h x l := H h fun _ _ e _ => e
set_option maxHeartbeats 4000000 in
theorem init_spec (w : World) (mg mb : Str → Option Value) :
  ∀ (l : List Nat) (t : Tok) (x dx : Addr) (A : Around) (I h : Heap) (g : Array GenState) (d : Drawn) (tk : Nat) (os : OsState) (R : Result → Shared → Prop),
    Gd w mg mb I → Rm A 4 60 → l.length ≤ 100 → I.StaysIn h → h.get? x = some (instObj 131 dx) → h.get? dx = some (dictOf [] 0) → I.get? x = none → I.get? dx = none → x ≠ dx → I.objs.size ≤ h.objs.size →
    (∀ (h' : Heap) (tk' : Nat), I.StaysIn h' → LeadNew I h' x l → R (.ok (.ret .none)) ⟨h', g, d, tk', os⟩) →
      codeAny (model PySem.Challenge.rw_in0106_01.row.prog w) A (.call (.ref 86) ⟨[.ref x, .str (tx l) t], []⟩) R ⟨h, g, d, tk, os⟩ := by
  intro l t x dx A I h g d tk os R G rm hl hI hx hdx Ix Idx xdx hsz hret
  have Gh := G.keeps hI
  have X1 := Gh.kin
  revert X1
  k_fill
  intro X1
  have lim := Gh.lim
  obtain ⟨mrange, mlen, mtuple, mgetattr, msuper, mlist⟩ := mg_facts G
  obtain ⟨glead, gcolumns, gspelled, gnumbered, glook, gws, gfdd⟩ := mg_own G
  k_dflt (refine' enter (dd := 3) (u := 57) (binds := [(Str.ofString "self", .ref x), (Str.ofString "ws", .str (tx l) t)]) X1 lim rm ?k6 ?k7 ?k9 ?kB ?_ ?c2 ?c3 ?c4 ?c5; (case k6 => k_is); (case k7 => k_is); (case k9 => exact BindsTo.of_eq rfl); (case c5 => decide); (case kB => exact locs rfl); (case c2 => exact rfl); (case c3 => exact rfl); (case c4 => exact rfl))
  intro L h₁ tk₁ A' E' m F0 hm rmA
  dsimp only at F0 ⊢
  have ab : I.objs.size ≤ L := Nat.le_trans hsz F0.above
  have F : Fm I L h₁ m [(x, instObj 131 dx), (dx, dictOf [] 0)] := by
    have f0 := Fm.of_fr F0
    refine ((⟨f0.ns, fun b o e => F0.keep b o (hI b o e), isNone_of fun o e => ?_, (fun _ hp => nomatch hp), List.nodup_nil⟩ : Fm I L h₁ m []).add (F0.keep _ _ hdx) (Nat.ne_of_lt (Nat.lt_of_lt_of_le (Heap.lt_size hdx) F0.above)) Idx (by simp)).add (F0.keep _ _ hx) (Nat.ne_of_lt (Nat.lt_of_lt_of_le (Heap.lt_size hx) F0.above)) Ix (by simpa using xdx)
    have := hI _ _ e
    rw [f0.out] at this; cases this
  have mself : m (Str.ofString "self") = some (.ref x) := hm ▸ rfl
  have mws : m (Str.ofString "ws") = some (.str (tx l) t) := hm ▸ rfl
  clear hm
  walk_at "ms"
  refine plainObj_wpAny_Assign_Attribute ?_
  walk_at "ms"
  refine setB (pre := [(x, instObj 131 dx)]) (post := []) F ab G.kin (.head _) (by exact rfl) (by exact rfl) (by exact rfl) (by exact rfl) (fun _ h => nomatch h) (by decide) fun h2 es1 n1 tk2 sk1 ln1 ge1 F2 => ?_
  clear F
  try dsimp only
  have G2 := G.keeps F2.keep
  walk_at "ms"
  refine Assign_Tuple_swapped (names := [Str.ofString "S", Str.ofString "T"]) ?_ rfl rfl
  refine tupleNew ?_
  refine wpAny_items_cons (Attribute_Name_ ?_) rfl
  walk_at "mG"
  refine cls_value G2.kin (v := .str (Str.ofString " ") _) (mc := .type "type") (by exact rfl) (by exact rfl) (by exact rfl) ?_
  try dsimp only
  refine wpAny_items_cons (Attribute_Name_ ?_) rfl
  have G2 := G.keeps F2.keep
  walk_at "mG"
  refine cls_value G2.kin (v := .str (Str.ofString "\t") _) (mc := .type "type") (by exact rfl) (by exact rfl) (by exact rfl) ?_
  try dsimp only
  walk_at "ms"
  refine ⟨by decide, fun T h3 k3 n3 e3 => ?_⟩
  have F3 := F2.pure k3
  refine unpackT rmA.handled e3 rfl fun h4 k4 => ?_
  have F4 := F3.pure k4
  clear F2 F3
  refine assignInOrder_cons ?_
  refine bindName_ ?_
  walk_at "mS"
  intro h5 F5
  try dsimp only
  refine assignInOrder_cons ?_
  refine bindName_ ?_
  walk_at "mS"
  intro h6 F6
  try dsimp only
  refine assignInOrder_nil ?_
  walk_at "ms"
  refine listNew ?_
  walk_at "ms"
  refine ⟨by decide, fun Dc h7 k7 n7 e7 => ?_⟩
  have F7 := F6.new k7 n7 e7
  clear F4 F5 F6
  walk_at "mS"
  intro h8 F8
  try dsimp only
  walk_at "ms"
  refine wpAny_Assign_three ?_ rfl rfl
  walk_at "ms"
  refine assign_Name ?_
  walk_at "mS"
  intro h9 F9
  refine assign_Name ?_
  walk_at "mS"
  intro h10 F10
  refine assign_Name ?_
  walk_at "mS"
  intro h11 F11
  clear F7 F8 F9 F10
  try dsimp only
  walk_at "ms"
  walk_at "mFor"
  refine Attribute_Name_ ?_
  walk_at "ms"
  refine getA (v := .str (tx l) t) (G.keeps F11.keep).kin (F11.get (.tail _ (.head _))) (F11.get (.tail _ (.tail _ (.head _)))) (attr := none) (by exact rfl) (by exact rfl) (by exact rfl) (by exact rfl) ((ge1 _).trans (if_pos rfl)) (by exact rfl) ?_
  try dsimp only
  refine iter_str fun It h12 St k12 l12 W hlive hst => ?_
  have fr := F11.fresh l12
  have W1 := W _ rmA.handled
  have frx : x ≠ It := fr.2.2 (x, instObj 131 dx) (.tail _ (.head _))
  have frdx : dx ≠ It := fr.2.2 (dx, dictOf es1 n1) (.tail _ (.tail _ (.head _)))
  have frL : L ≠ It := fun q => fr.2.1 q.symm
  have frD : Dc ≠ It := fr.2.2 (Dc, listO [] 0) (.head _)
  refine codeAny_mono (R := fun r s' => r = .ok .next ∧ ∃ h' tk', s' = ⟨h', g, d, tk', os⟩ ∧ (normL l).1.length ≤ 100 ∧ InitI I L x dx es1 n1 It h' (normL l).1 (normL l).2) (forW W1 (fun i hh => ∃ cs b, InitI I L x dx es1 n1 It hh cs b ∧ cs.length ≤ i ∧ b ≤ i ∧ wsGo (l.drop i) cs b = normL l) hst ?_ ?_ ?_ ?_) ?_
  · exact ⟨[], 0, ⟨_, Dc, [], 0, 0, 0, _, _, _, _, _, F11.pure k12, frD, .nil, ⟨(by walk_at "look"), (by walk_at "look"), (by walk_at "look"), (by walk_at "look"), (by rw [show (((0 : Nat)) : Int) = 0 from rfl]; walk_at "look"), (by walk_at "look"), (by walk_at "look")⟩⟩, Nat.le_refl _, Nat.le_refl _, rfl⟩
  · rintro i h h' ⟨cs, b, ⟨m, Dc, ys, k, nn, nt, tS, tT, tb, tn, tt, F, hD, r⟩, r2⟩ hk
    refine ⟨cs, b, ⟨m, Dc, ys, k, nn, nt, tS, tT, tb, tn, tt, F.other hk (fun q => frL (List.mem_singleton.mp q)) (fun b hb => by rw [List.mem_singleton.mp hb]; exact fr.1) (fun p hp q => ?_), hD, r⟩, r2⟩
    have q := List.mem_singleton.mp q
    rcases List.mem_cons.mp hp with rfl | hp
    · exact hD q
    · rcases List.mem_cons.mp hp with rfl | hp
      · exact frx q
      · rw [List.mem_singleton.mp hp] at q; exact frdx q
  · rintro i v hh tk9 E2 hj ⟨k8, tv8, hk8, rfl⟩ ⟨cs, b, ⟨m, Dc, ys, k, nn, nt, tS, tT, tb, tn, tt, F, hD, hys, N⟩, hcl, hbl, hgo⟩ hst8
    have hlj : l.drop i = k8 :: l.drop (i + 1) := by
      have : l[i]? = some k8 := by simpa [tx] using hk8
      obtain ⟨hj, e⟩ := List.getElem?_eq_some_iff.mp this
      rw [← e]; exact List.drop_eq_getElem_cons hj
    rw [hlj] at hgo
    have hi : i < 100 := by
      have : l[i]? = some k8 := by simpa [tx] using hk8
      have := (List.getElem?_eq_some_iff.mp this).1
      omega
    have hysl := hys.length
    obtain ⟨n1', n2, n3, n4, n5, n6, n7⟩ := N
    obtain ⟨I₂, hII, F, hab⟩ := F.absorb
    have hIt : ∀ o, hh.get? It = some o → I₂.get? It = some o := fun o ho => hab It o ho (Ne.symm frL) (fun hm => by
      rcases List.mem_cons.mp hm with q | hm
      · exact hD q.symm
      · rcases List.mem_cons.mp hm with q | hm
        · exact frx q.symm
        · exact frdx (List.mem_singleton.mp hm).symm)
    have kp : ∀ h', I₂.StaysIn h' → ∀ b ∈ [It], ∀ o, hh.get? b = some o → h'.get? b = some o := fun h' kk b hb o e => by
      rw [List.mem_singleton.mp hb] at e ⊢; exact kk _ _ (hIt o e)
    have nIt : ∀ (h' : Heap) T, I₂.StaysIn h' → h'.get? T = none → T ≠ It := fun h' T kk hn q => by
      obtain ⟨o, ho⟩ := hlive _ _ hst8
      rw [q, kk _ _ (hIt o ho)] at hn; cases hn
    have G9 : Gd w mg mb I₂ := G.keeps hII
    walk_at "mS"
    intro h9 F9
    try dsimp only
    walk_at "ms"
    rw [show ((⟨#[k8]⟩ : Str) == Str.ofString " ") = decide (k8 = 32) from by rw [sp_is]; exact sign_eq _ _]
    by_cases q : k8 = 32
    · rw [if_pos (by simpa using q)]
      walk_at "ms"
      walk_at "mS"
      intro h10 F10
      try dsimp only
      walk_at "ms"
      walk_at "mS"
      intro h11 F11
      try dsimp only
      walk_at "ms"
      exact ⟨_, _, rfl, ⟨cs, b + 1, ⟨_, Dc, ys, k, nn + 1, nt, tS, tT, _, _, tt, F11.weak hII, hD, hys, ⟨(by walk_at "look"), (by walk_at "look"), (by walk_at "look"), (by walk_at "look"), (by rw [show (((b + 1 : Nat)) : Int) = (b : Int) + 1 from by omega]; walk_at "look"), (by walk_at "look"), (by walk_at "look")⟩⟩, by omega, by omega, by rw [← hgo]; simp only [wsGo]; rw [if_pos q]⟩, kp _ F11.keep⟩
    · rw [if_neg (by simpa using q)]
      walk_at "ms"
      rw [show ((⟨#[k8]⟩ : Str) == Str.ofString "\t") = decide (k8 = 9) from by rw [tab_is]; exact sign_eq _ _]
      by_cases q2 : k8 = 9
      · rw [if_pos (by simpa using q2)]
        walk_at "ms"
        walk_at "mS"
        intro h10 F10
        try dsimp only
        walk_at "ms"
        walk_at "mS"
        intro h11 F11
        try dsimp only
        refine wpAny_execs_cons ?_
        clear F9 F10
        refine wpAny_mono (Q := fun fl s' => fl = Flow.next ∧ ∃ h' tk' m Dc' ys' k' tb tn tt, s' = ⟨h', g, d, tk', os⟩ ∧ Fm I₂ L h' m [(Dc', listO ys' k'), (x, instObj 131 dx), (dx, dictOf es1 n1)] ∧ Dc' ≠ It ∧ IntsAre ys' (if cs.length ≤ b then cs ++ List.replicate (b - cs.length + 1) 0 else cs) ∧
          InitN m x Dc' (b : Int) (nn + 1) (nt + 1) tS tT tb tn tt) ?_ (fun fl s' hq => ?_) (fun _ _ e => e)
        · have G11 := G9.keeps F11.keep
          walk_at "m"
          walk_at "m"
          walk_at "ms"
          walk_at "mCall"
          walk_at "mB"
          walk_at "mArgB"
          walk_at "ms"
          refine len_list ⟨_, F11.get (.head _), rfl, _, rfl⟩ (by rw [List.size_toArray]; omega) ?_
          refine ge_int ?_
          try dsimp only
          walk_at "ms"
          by_cases q3 : cs.length ≤ b
          · rw [if_pos (by rw [decide_eq_true_eq, List.size_toArray]; omega), if_pos q3]
            walk_at "ms"
            refine listNew ?_
            walk_at "ms"
            refine ⟨by rw [sizeLine_eq]; simp, fun T1 h14 k14 n14 e14 => ?_⟩
            have F14 := F11.pure k14
            have G14 := G9.keeps F14.keep
            try dsimp only
            walk_at "ms"
            walk_at "mCall"
            walk_at "mB"
            walk_at "mArgB"
            walk_at "ms"
            refine len_list ⟨_, F14.get (.head _), rfl, _, rfl⟩ (by rw [List.size_toArray]; omega) ?_
            walk_at "ms"
            have ez : (((b : Nat) : Int) - ((ys.toArray.size : Nat) : Int) + 1) = ((b - cs.length + 1 : Nat) : Int) := by rw [List.size_toArray, hysl]; omega
            rw [ez]
            refine mulList1 F14.ns e14 (by omega) (by omega) fun T2 h15 ns15 k15 n15 e15 => ?_
            have F15 := F14.kept ns15 k15
            try dsimp only
            refine addList (F15.get (.head _)) e15 (by rw [List.length_replicate, sizeLine_eq]; omega) fun T3 h16 k16 n16 e16 => ?_
            have F16 := F15.new k16 n16 e16
            have hT3 := nIt _ _ F15.keep n16
            walk_at "mS"
            intro h17 F17
            try dsimp only
            walk_at "ms"
            refine ⟨rfl, _, _, _, T3, _, _, _, _, _, rfl, F17.sub (.cons₂ _ (.cons _ (.refl _))), hT3, ints_app hys (by simpa using ints_rep _ _), ⟨(by walk_at "look"), (by walk_at "look"), (by walk_at "look"), (by walk_at "look"), (by walk_at "look"), (by walk_at "look"), (by walk_at "look")⟩⟩
          · rw [if_neg (by rw [decide_eq_true_eq, List.size_toArray]; omega), if_neg q3]
            walk_at "ms"
            exact ⟨rfl, _, _, _, Dc, ys, k, _, _, _, rfl, F11, hD, hys, ⟨(by walk_at "look"), (by walk_at "look"), (by walk_at "look"), (by walk_at "look"), (by walk_at "look"), (by walk_at "look"), (by walk_at "look")⟩⟩
        · obtain ⟨rfl, h12, tk12, m', Dc', ys', k', tb', tn', tt', rfl, F12, hDc', hys', N'⟩ := hq
          try dsimp only
          obtain ⟨p1, p2, p3, p4, p5, p6, p7⟩ := N'
          have hlt : b < (if cs.length ≤ b then cs ++ List.replicate (b - cs.length + 1) 0 else cs).length := by split <;> first | omega | (simp; omega)
          have hyl' := hys'.length
          have hle : (if cs.length ≤ b then cs ++ List.replicate (b - cs.length + 1) 0 else cs).length ≤ 101 := by split <;> first | omega | (simp; omega)
          obtain ⟨tg, hg⟩ := ints_get hys' b hlt
          walk_at "m"
          refine wpAny_Assign_Subscript ?_ rfl
          walk_at "ms"
          refine PyProof.Rows.Subscript_ ?_
          walk_at "ms"
          refine item_listL (l := ys') ⟨_, F12.get (.head _), rfl, _, rfl⟩ (by omega) (by omega) (by simpa using hg) ?_ rfl (fun _ => rfl)
          walk_at "ms"
          refine setItemL (F12.get (.head _)) (by omega) (by omega) (by omega) fun h13 n13 hs13 e13 => ?_
          have F13 := Fm.upd (pre := []) F12 hs13 e13
          try dsimp only
          walk_at "ms"
          walk_at "mS"
          intro h14 F14
          try dsimp only
          walk_at "ms"
          refine ⟨_, _, rfl, ⟨bump cs b, 0, ⟨_, Dc', _, _, nn + 1, nt + 1, tS, tT, _, tn', tt', F14.weak hII, hDc', ?_, ⟨(by walk_at "look"), (by walk_at "look"), (by walk_at "look"), (by walk_at "look"), (by rw [show (((0 : Nat)) : Int) = 0 from rfl]; walk_at "look"), (by walk_at "look"), (by walk_at "look")⟩⟩, ?_, ?_, ?_⟩, kp _ F14.keep⟩
          · exact ints_set hys' _ _ _
          · rw [bump_len]; omega
          · omega
          · rw [← hgo]; simp only [wsGo]; rw [if_neg q, if_pos q2]
      · rw [if_neg (by simpa using q2)]
        walk_at "ms"
        have e : (cs, b) = normL l := by rw [← hgo]; simp only [wsGo]; rw [if_neg q, if_neg q2]
        refine ⟨rfl, _, _, rfl, ?_⟩
        rw [← e]
        exact ⟨by show cs.length ≤ 100; omega, _, Dc, ys, k, nn, nt, tS, tT, _, _, tt, F9.weak hII, hD, hys, ⟨(by walk_at "look"), (by walk_at "look"), (by walk_at "look"), (by walk_at "look"), (by walk_at "look"), (by walk_at "look"), (by walk_at "look")⟩⟩
  · rintro hh tk9 ⟨cs, b, H, hcl, hbl, hgo⟩
    have : l.drop (tx l).cps.size = [] := by simp [tx]
    rw [this] at hgo
    have hs : (tx l).cps.size = l.length := by simp [tx]
    refine ⟨rfl, _, _, rfl, ?_⟩
    rw [← hgo]
    exact ⟨by show cs.length ≤ 100; omega, H⟩
  · rintro r s' ⟨rfl, h13, tk13, rfl, hnl, ⟨m, Dc, ys, k, nn, nt, tS, tT, tb, tn, tt, F13, hD, hys, N⟩⟩
    try dsimp only
    obtain ⟨p1, p2, p3, p4, p5, p6, p7⟩ := N
    have hyl := hys.length
    have ln1 : es1.length ≤ 1 := ln1
    walk_at "m"
    refine plainObj_wpAny_Assign_Attribute ?_
    walk_at "ms"
    refine setB (pre := [(Dc, listO ys k), (x, instObj 131 dx)]) (post := []) F13 ab G.kin (.tail _ (.head _)) (by exact rfl) (by exact rfl) (by exact rfl) (by exact rfl) sk1 (Nat.le_trans ln1 (by decide)) fun h14 es2 n2 tk14 sk2 ln2 ge2 F14 => ?_
    try dsimp only
    walk_at "ms"
    refine plainObj_wpAny_Assign_Attribute ?_
    walk_at "ms"
    refine setB (pre := [(Dc, listO ys k), (x, instObj 131 dx)]) (post := []) F14 ab G.kin (.tail _ (.head _)) (by exact rfl) (by exact rfl) (by exact rfl) (by exact rfl) sk2 (by omega) fun h15 es3 n3 tk15 sk3 ln3 ge3 F15 => ?_
    try dsimp only
    clear F13 F14
    walk_at "ms"
    refine plainObj_wpAny_Assign_Attribute ?_
    refine tupleNew ?_
    walk_at "ms"
    have G15 := G.keeps F15.keep
    walk_at "mCall"
    walk_at "mB"
    walk_at "mArgT"
    walk_at "ms"
    refine tupleOf F15.ns (F15.get (.head _)) (by omega) fun T1 h16 ns16 k16 n16 e16 nL16 => ?_
    have n16' : h15.get? T1 = none := isNone_of fun o e => nL16 (n16 o e)
    have F16 := (F15.kept ns16 k16).add e16 nL16 (isNone_of fun o e => by have := F15.keep _ _ e; rw [n16'] at this; cases this) (fun hm => by
      obtain ⟨p, hp, e⟩ := List.mem_map.mp hm
      have := (F15.mus p hp).1
      rw [e, n16'] at this; cases this)
    try dsimp only
    walk_at "ms"
    refine ⟨by rw [sizeLine_eq]; simp, fun T2 h17 k17 n17 e17 => ?_⟩
    have F17 := F16.new k17 n17 e17
    clear F15 F16
    walk_at "ms"
    refine setB (pre := [(T2, tupO [.ref T1, .int ((normL l).2 : Int) tb] 0), (T1, tupO ys 0), (Dc, listO ys k), (x, instObj 131 dx)]) (post := []) F17 ab G.kin (.tail _ (.tail _ (.tail _ (.head _)))) (by exact rfl) (by exact rfl) (by exact rfl) (by exact rfl) sk3 (by omega) fun h18 es4 n4 tk18 sk4 ln4 ge4 F18 => ?_
    try dsimp only
    clear F17
    walk_at "ms"
    refine plainObj_wpAny_Assign_Attribute ?_
    have G18 := G.keeps F18.keep
    walk_at "ms"
    walk_at "mCall"
    walk_at "mB"
    walk_at "mArgB"
    walk_at "ms"
    refine len_list ⟨_, F18.get (.tail _ (.tail _ (.head _))), rfl, _, rfl⟩ (by rw [List.size_toArray]; omega) ?_
    walk_at "ms"
    refine le_int ?_
    walk_at "ms"
    refine setB (pre := [(T2, tupO [.ref T1, .int ((normL l).2 : Int) tb] 0), (T1, tupO ys 0), (Dc, listO ys k), (x, instObj 131 dx)]) (post := []) F18 ab G.kin (.tail _ (.tail _ (.tail _ (.head _)))) (by exact rfl) (by exact rfl) (by exact rfl) (by exact rfl) sk4 (by omega) fun h19 es5 n5 tk19 sk5 ln5 ge5 F19 => ?_
    try dsimp only
    walk_at "ms"
    have nw : ∀ I' : Heap, (∀ b o, h19.get? b = some o → I.get? b = none → I'.get? b = some o) → ∀ p ∈ [(T2, tupO [.ref T1, .int ((normL l).2 : Int) tb] 0), (T1, tupO ys 0), (Dc, listO ys k), (x, instObj 131 dx), (dx, dictOf es5 n5)], I'.get? p.1 = some p.2 := fun I' hI' p hp => hI' _ _ (F19.mus p hp).1 (F19.mus p hp).2.2
    refine hret _ _ F19.keep fun I' hI' => ⟨dx, es5, n5, T2, T1, 0, 0, ys, tb, nw I' hI' (x, instObj 131 dx) (by simp), nw I' hI' (dx, dictOf es5 n5) (by simp), ?_, ?_, nw I' hI' (T2, tupO [.ref T1, .int ((normL l).2 : Int) tb] 0) (by simp), nw I' hI' (T1, tupO ys 0) (by simp), hys⟩
    · rw [ge5, if_neg (by decide +kernel), ge4, if_pos rfl]
    · rw [ge5, if_neg (by decide +kernel), ge4, if_neg (by decide +kernel), ge3, if_neg (by decide +kernel), ge2, if_neg (by decide +kernel), ge1, if_neg (by decide +kernel)]; rfl

theorem ws_spec (w : World) (mg mb : Str → Option Value) :
  ∀ (l : List Nat) (t : Tok) (A : Around) (h : Heap) (g : Array GenState) (d : Drawn) (tk : Nat) (os : OsState) (R : Result → Shared → Prop),
    Gd w mg mb h → Rm A 5 61 → l.length ≤ 100 →
    (∀ (x : Addr) (h' : Heap) (tk' : Nat), h.StaysIn h' → h.get? x = none → LeadNew h h' x l → R (.ok (.ret (.ref x))) ⟨h', g, d, tk', os⟩) →
      codeAny (model PySem.Challenge.rw_in0106_01.row.prog w) A (.call (.ref 131) ⟨[.str (tx l) t], []⟩) R ⟨h, g, d, tk, os⟩ := by
  intro l t A h g d tk os R G rm hl hret
  refine make_ws (dd := 4) (u := 60) G.kin rm fun A' rm' => ?_
  have n1 : h.get? (h.objs.size + 1) = none := isNone_of fun o e => absurd (Heap.lt_size e) (Nat.not_lt.mpr (Nat.le_succ _))
  have e0 : ((h.push emptyDict).push (instObj 131 h.objs.size)).get? h.objs.size = some emptyDict := Heap.get?_push_of_some _ (Heap.get?_push_size _ rfl)
  have e1 : ((h.push emptyDict).push (instObj 131 h.objs.size)).get? (h.objs.size + 1) = some (instObj 131 h.objs.size) := by
    have := Heap.get?_push_size (h.push emptyDict) (o := instObj 131 h.objs.size) rfl
    rwa [Heap.size_push] at this
  refine init_spec w mg mb l t (h.objs.size + 1) h.objs.size A' h _ g d tk os _ G rm' hl (fun b o e => stays_push _ _ _ _ (stays_push _ _ _ _ e)) e1 e0 n1 (none_size _) (Nat.succ_ne_self _) (by rw [Heap.size_push, Heap.size_push]; omega) fun h' tk' k L => ?_
  exact ⟨rfl, hret _ h' tk' k n1 L⟩

theorem LeadAt.reads {h : Heap} {x : Addr} {l : List Nat} (H : LeadAt h x l) : ∃ dx es n tn, h.get? x = some (instObj 131 dx) ∧ h.get? dx = some (dictOf es n) ∧ getL (Str.ofString "norm") es = some (some (.ref tn)) ∧ getL (Str.ofString "equal") es = some none ∧ Reads h (.ref tn) (dN (normL l)) [] := by
  obtain ⟨dx, es, n, tn, tc, k1, k2, ws, tb, a, b, c, d, e, f, g⟩ := H
  refine ⟨dx, es, n, tn, a, b, c, d, .tuple e rfl rfl ?_⟩
  exact .cons (as := []) (reads_tI f rfl rfl g) (.cons (as := []) (.int _ _) .nil)

set_option maxHeartbeats 4000000 in
theorem equal_spec (w : World) (mg mb : Str → Option Value) :
  ∀ (l₁ l₂ : List Nat) (x y : Addr) (A : Around) (h : Heap) (g : Array GenState) (d : Drawn) (tk : Nat) (os : OsState) (R : Result → Shared → Prop),
    Gd w mg mb h → Rm A 3 40 → LeadAt h x l₁ → LeadAt h y l₂ →
    (∀ (h' : Heap) (tk' : Nat), h.StaysIn h' → R (.ok (.ret (.bool (decide (normL l₁ = normL l₂))))) ⟨h', g, d, tk', os⟩) →
      codeAny (model PySem.Challenge.rw_in0106_01.row.prog w) A (.call (.ref 107) ⟨[.ref x, .ref y], []⟩) R ⟨h, g, d, tk, os⟩ := by
  intro l₁ l₂ x y A h g d tk os R G rm Hx Hy hret
  have X1 := G.kin
  revert X1
  k_fill
  intro X1
  have lim := G.lim
  k_dflt (refine' enter (dd := 2) (u := 37) (binds := [(Str.ofString "self", .ref x), (Str.ofString "other", .ref y)]) X1 lim rm ?k6 ?k7 ?k9 ?kB ?_ ?c2 ?c3 ?c4 ?c5; (case k6 => k_is); (case k7 => k_is); (case k9 => exact BindsTo.of_eq rfl); (case c5 => decide); (case kB => exact locs rfl); (case c2 => exact rfl); (case c3 => exact rfl); (case c4 => exact rfl))
  intro L h₁ tk₁ A' E' m F0 hm rmA
  dsimp only at F0 ⊢
  have F := Fm.of_fr F0
  have mself : m (Str.ofString "self") = some (.ref x) := hm ▸ rfl
  have mother : m (Str.ofString "other") = some (.ref y) := hm ▸ rfl
  clear hm
  have G1 := G.keeps F.keep
  obtain ⟨dx, es, n, tn, a1, a2, a3, _, a4⟩ := (Hx.keeps F0.keep).reads
  obtain ⟨dy, es', n', tn', b1, b2, b3, _, b4⟩ := (Hy.keeps F0.keep).reads
  walk_at "ms"
  refine Attribute_Name_ ?_
  walk_at "ms"
  refine getA G1.kin a1 a2 (attr := none) (by exact rfl) (by exact rfl) (by exact rfl) (by exact rfl) a3 (by exact rfl) ?_
  walk_at "ms"
  refine Attribute_Name_ ?_
  walk_at "ms"
  refine getA G1.kin b1 b2 (attr := none) (by exact rfl) (by exact rfl) (by exact rfl) (by exact rfl) b3 (by exact rfl) ?_
  walk_at "ms"
  refine SeqAt.compareEq_reads a4 b4 (lay_dN _) (lay_dN _) (by have := dep_dN (normL l₁); have := rmA.units; omega) ?_
  rw [eqv_dN]
  exact hret _ _ F0.keep

set_option maxHeartbeats 4000000 in
theorem spelled_spec (w : World) (mg mb : Str → Option Value) :
  ∀ (l : List Nat) (x : Addr) (A : Around) (h : Heap) (g : Array GenState) (d : Drawn) (tk : Nat) (os : OsState) (R : Result → Shared → Prop),
    Gd w mg mb h → Rm A 3 40 → LeadAt h x l → NB (normL l) →
    (∀ (t : Tok) (h' : Heap) (tk' : Nat), h.StaysIn h' → R (.ok (.ret (.str (tx (spellL (normL l))) t))) ⟨h', g, d, tk', os⟩) →
      codeAny (model PySem.Challenge.rw_in0106_01.row.prog w) A (.call (.ref 154) ⟨[.ref x], []⟩) R ⟨h, g, d, tk, os⟩ := by
  intro l x A h g d tk os R G rm Hx ⟨nb1, nb2, nb3⟩ hret
  have X1 := G.kin
  revert X1
  k_fill
  intro X1
  have lim := G.lim
  obtain ⟨mrange, mlen, mtuple, mgetattr, msuper, mlist⟩ := mg_facts G
  k_dflt (refine' enterC (dd := 2) (u := 37) (binds := [(Str.ofString "lead", .ref x)]) X1 lim rm ?k6 ?k7 ?k9 ?kB ?_ ?c2 ?c3 ?c4; (case k6 => k_is); (case k7 => k_is); (case k9 => exact rfl); (case kB => exact rfl); (case c2 => exact rfl); (case c3 => exact rfl); (case c4 => exact rfl))
  intro L h₁ tk₁ A' E' m cm F0 hm hcm hcell rmA hfr
  obtain ⟨oc, hoc, hdc, hLc⟩ := hcell (Str.ofString "counts") (L + 1) (by exact rfl)
  have F : Fm h L h₁ m [(L + 1, oc)] := (Fm.of_fr F0).add hoc (Nat.ne_of_gt hLc) (hfr _ hLc) (by simp)
  have mlead : m (Str.ofString "lead") = some (.ref x) := hm ▸ rfl
  clear hm hcell
  have G1 := G.keeps F.keep
  obtain ⟨dx, es, n, tn, tc, k1, k2, ws, tb, a, b, c, _, e, f, gg⟩ := Hx
  have hwl := gg.length
  walk_at "m"
  refine Assign_Tuple ?_ rfl rfl
  refine Attribute_Name_ ?_
  walk_at "ms"
  refine getA G1.kin (F.keep _ _ a) (F.keep _ _ b) (attr := none) (by exact rfl) (by exact rfl) (by exact rfl) (by exact rfl) c (by exact rfl) ?_
  refine assign_Tuple_tuple (items := [Value.ref tc, .int ((normL l).2 : Int) tb].toArray) rmA.handled ⟨_, F.keep _ _ e, rfl, _, rfl⟩ rfl rfl fun h2 he2 => ?_
  have F2 := F.pure (h' := h2) fun b o e => he2 b o (Nat.ne_of_lt (Heap.lt_size e)) e
  try dsimp only
  refine assignInOrder_cons ?_
  refine assign_Name ?_
  refine stCell (pre := []) (post := []) F2 hdc (by exact rfl) (fun h3 F3 => ?_) rfl rfl
  try dsimp only
  refine assignInOrder_cons ?_
  refine assign_Name ?_
  walk_at "mS"
  intro h4 F4
  try dsimp only
  refine assignInOrder_nil ?_
  walk_at "ms"
  walk_at "mMeth"
  walk_at "ms"
  refine GM.join ?_
  try dsimp only
  refine callWith_method1 ?_
  refine wpAny_items_cons ?_ rfl
  have G4 := G.keeps F4.keep
  have hcell4 := F4.get (.head _)
  obtain ⟨I0, hI0, F5, hab⟩ := F4.drop.absorb
  have hL4 := F4.ns.lt
  have cI0 := hab _ _ hcell4 (F4.mus _ (.head _)).2.1 (by simp)
  refine comp_expr (g := g) (d := d) (os := os) (cl := [(Str.ofString "counts", L + 1)]) rfl (by decide) rfl (by decide) (by decide +kernel) (fun _ => rfl) ?_
  walk_at "mCall"
  walk_at "mB"
  walk_at "mArgT"
  refine wpAny_items_cons ?_ rfl
  walk_at "mCall"
  walk_at "mB"
  walk_at "mArgB"
  refine wpAny_items_cons (ldCell (c := L + 1) rfl hcell4 rfl ?_ rfl rfl rfl) rfl
  walk_at "ms"
  refine PyProof.Rows.len_tuple ⟨_, F4.keep _ _ f, rfl, _, rfl⟩ (by rw [List.size_toArray]; omega) ?_
  walk_at "ms"
  refine iter_range1 (n := (normL l).1.length) (by rw [rangeSize_one, List.size_toArray]; split <;> omega) (small_one (by omega) (by omega) (by omega) (by rw [List.size_toArray]; omega)) fun It h6 tk6 k6 l6 hst => ?_
  have hIt : h4.get? It = none := isNone_of fun o e => absurd (Heap.lt_size e) (Nat.not_lt.mpr l6)
  have W1 := Walks.range (prog := PySem.Challenge.rw_in0106_01.row.prog) (w := w) rmA.handled It 0 1 (normL l).1.length
  refine ⟨h6, (normL l).1.length, fun i ys mu I => mu = [] ∧ StrsAre ys (((List.range i).map fun k => (List.replicate ((normL l).1.getD k 0).toNat (List.replicate k 32 ++ [9])).flatten).map tx), I0, [], [It], [], tk6, rfl, ⟨It, [It], _, _, rfl, W1, ?_, by rw [sizeLine_eq]; omega, hst, ?_, fun b o e => k6 b o (F5.keep b o e), ?_, (fun _ hp => nomatch hp), ⟨rfl, .nil⟩, (fun _ hp => nomatch hp), ?_⟩, ?_⟩
  · exact fun i h st b hb => by rw [List.mem_singleton.mp hb]; exact ⟨_, st⟩
  · exact fun b hb => by rw [List.mem_singleton.mp hb]; exact Heap.lt_size hst
  · exact fun b hb => by rw [List.mem_singleton.mp hb]; exact isNone_of fun o e => by have := F5.keep _ _ e; rw [hIt] at this; cases this
  · rintro C i v ys mu I h7 tk7 E7 hC hi ⟨tv, rfl⟩ ⟨rfl, hys⟩ hII hI _ _ ⟨mC, hn, hv⟩
    refine turn_all ?_
    have c7 := hI _ _ (hII _ _ cI0)
    have f7 : h7.get? tc = some (tupO ws k2) := hI _ _ (hII _ _ (hI0 _ _ f))
    obtain ⟨ti, hti⟩ := ints_get gg i hi
    have hmem : (normL l).1.getD i 0 ∈ (normL l).1 := by rw [List.getD_eq_getElem?_getD, List.getElem?_eq_getElem hi]; exact List.getElem_mem _
    have hcb := nb3 _ hmem
    walk_at "ms"
    walk_at "mN"
    walk_at "ms"
    refine SB.mul (mulOk_of 16 1048576 (by decide) (by omega) (by omega) (by decide) (by decide)) ?_
    intro t8 k8
    walk_at "ms"
    rw [sp_is, mul_tx]
    refine PyProof.Rows.add_str (hsz := by rw [tx_len, List.length_replicate, tab_is, tx_len, sizeLine_eq]; simp; omega) ?_
    intro t9 k9
    walk_at "ms"
    refine PyProof.Rows.Subscript_ ?_
    refine ldCell (c := L + 1) rfl c7 rfl ?_ rfl rfl rfl
    walk_at "mN"
    refine item_tupleT (l := ws) (j := i) ⟨_, f7, rfl, _, rfl⟩ (by omega) (by omega) (seqIdx (by omega)) hti ?_ rfl
    have ei : ((0 : Int) + (i : Int) * 1).toNat = i := by omega
    rw [tab_is, tx_app, ei]
    refine SB.mul (mulOk_of 32 1024 (by rw [tx_len, List.length_append, List.length_replicate]; simp; omega) (by omega) (by omega) (by decide) (by decide)) ?_
    intro t10 k10
    rw [mul_txs]
    refine ⟨h7, _, [], rfl, rfl, (fun _ hp => nomatch hp), fun b o _ e => e, fun I' _ _ => ⟨rfl, ?_⟩⟩
    rw [List.range_succ, List.map_append, List.map_append]
    exact strs_snoc hys
  · rintro D ys mu I h7 tk7 ⟨rfl, hys⟩ hII hI hD hl7 _ _ _ _ _ hk
    have F7 := (F4.pure k6).other (wr := [It]) (fun b o hb e => hk b o hb (by simp) e) (fun q => by rw [← List.mem_singleton.mp q] at hIt; obtain ⟨oL, _, _, hoL, _⟩ := F4.ns; rw [hIt] at hoL; cases hoL) (fun b hb => by rw [List.mem_singleton.mp hb]; exact (F4.fresh l6).1)
      (fun p hp q => (F4.fresh l6).2.2 p hp (List.mem_singleton.mp q))
    try dsimp only
    walk_at "ms"
    refine join_list (ys := ((List.range (normL l).1.length).map fun k => (List.replicate ((normL l).1.getD k 0).toNat (List.replicate k 32 ++ [9])).flatten).map tx) hD.isList (by simpa using hys) (by
      have hs := spell_sum (p := normL l) ⟨nb1, nb2, nb3⟩ _ (Nat.le_refl _)
      have e1 : ((((List.range (normL l).1.length).map fun k => (List.replicate ((normL l).1.getD k 0).toNat (List.replicate k 32 ++ [9])).flatten).map tx).map (·.length)) = (((List.range (normL l).1.length).map fun k => (List.replicate ((normL l).1.getD k 0).toNat (List.replicate k 32 ++ [9])).flatten).map List.length) := by
        rw [List.map_map]; exact List.map_congr_left fun y _ => tx_len y
      rw [e1]
      have e2 : (Str.ofString "").length = 0 := by decide +kernel
      rw [e2]
      omega) ?_
    intro t8 k8
    rw [txt_join]
    try dsimp only
    walk_at "ms"
    refine SB.mul (mulOk_of 16 1048576 (by decide) (by omega) (by omega) (by decide) (by decide)) ?_
    intro t9 k9
    rw [sp_is, mul_tx]
    refine PyProof.Rows.add_str (hsz := ?hsz) ?_
    case hsz =>
      have hs := spell_sum (p := normL l) ⟨nb1, nb2, nb3⟩ _ (Nat.le_refl _)
      rw [tx_len, tx_len, List.length_replicate, List.length_flatten, sizeLine_eq]
      omega
    intro t10 k10
    rw [tx_app]
    try dsimp only
    exact hret _ _ _ F7.keep

set_option maxHeartbeats 4000000 in
theorem numbered_spec (w : World) (mg mb : Str → Option Value) :
  ∀ (ma : Addr) (ys : List Value) (n : Nat) (A : Around) (h : Heap) (g : Array GenState) (d : Drawn) (tk : Nat) (os : OsState) (R : Result → Shared → Prop),
    Gd w mg mb h → Rm A 3 40 → h.get? ma = some (listO ys n) → ys.length ≤ 1000 →
    (∀ (T : Addr) (t : Tok) (n' : Nat) (h' : Heap) (tk' : Nat), (∀ b o, b ≠ ma → h.get? b = some o → h'.get? b = some o) → h'.get? ma = some (listO (ys ++ [.int (ys.length : Int) t]) n') → h.get? T = none → h'.get? T = some (listO [.int (ys.length : Int) t] 0) →
      R (.ok (.ret (.ref T))) ⟨h', g, d, tk', os⟩) →
      codeAny (model PySem.Challenge.rw_in0106_01.row.prog w) A (.call (.ref 161) ⟨[.ref ma], []⟩) R ⟨h, g, d, tk, os⟩ := by
  intro ma ys n A h g d tk os R G rm hma hlen hret
  have X1 := G.kin
  revert X1
  k_fill
  intro X1
  have lim := G.lim
  obtain ⟨mrange, mlen, mtuple, mgetattr, msuper, mlist⟩ := mg_facts G
  k_dflt (refine' enter (dd := 2) (u := 37) (binds := [(Str.ofString "made", .ref ma)]) X1 lim rm ?k6 ?k7 ?k9 ?kB ?_ ?c2 ?c3 ?c4 ?c5; (case k6 => k_is); (case k7 => k_is); (case k9 => exact BindsTo.of_eq rfl); (case c5 => decide); (case kB => exact locs rfl); (case c2 => exact rfl); (case c3 => exact rfl); (case c4 => exact rfl))
  intro L h₁ tk₁ A' E' m F0 hm rmA
  dsimp only at F0 ⊢
  have Fh := Fm.of_fr F0
  have m0 : m (Str.ofString "made") = some (.ref ma) := hm ▸ rfl
  clear hm
  have hL : ma ≠ L := fun q => by have := Fh.out; rw [← q, hma] at this; cases this
  have F : Fm (hideAll h [ma]) L h₁ m [(ma, listO ys n)] := (Fh.weak (fun b o e => of_hideAll _ e)).add (F0.keep _ _ hma) hL (hideAll_none _ (.head _)) (by simp)
  have G1 := G.keeps F0.keep
  clear Fh
  try dsimp only
  walk_at "ms"
  refine wpAny_Expr ?_
  walk_at "mMeth"
  walk_at "ms"
  refine getMethod_append_N F.mus (.head _) ?_
  refine callWith_method1 ?_
  refine wpAny_items_cons ?_ rfl
  walk_at "mCall"
  walk_at "mB"
  walk_at "mArgB"
  walk_at "ms"
  refine len_list (items := ys.toArray) ⟨_, F.get (.head _), rfl, _, rfl⟩ (by simp; omega) ?_
  try dsimp only
  walk_at "ms"
  have hsz : ys.toArray.size ≤ sizeLine := by rw [List.size_toArray, sizeLine_eq]; omega
  refine append_at (hsz := hsz) (F.get (.head _)) fun h2 hs2 hl2 => ?_
  have F2 := Fm.upd (pre := []) (post := []) F hs2 hl2
  try dsimp only
  have e2 : (ys.toArray.push (Value.int (ys.toArray.size : Int) (tk₁ + 1))) = (ys ++ [Value.int (ys.length : Int) (tk₁ + 1)]).toArray := by simp
  rw [e2] at F2
  walk_at "ms"
  refine listNew ?_
  refine wpAny_items_cons ?_ rfl
  refine PyProof.Rows.Subscript_ ?_
  walk_at "ms"
  refine wpAny_UnaryOp ?_
  walk_at "ms"
  refine PyProof.Rows.neg_int ?_
  try dsimp only
  refine tail_any (PySem.Heap.IsList.typeIs (items := (ys ++ [Value.int (ys.length : Int) (tk₁ + 1)]).toArray) ⟨_, F2.get (.head _), rfl, _, rfl⟩) slot_list_getitem.lookup (wpAny_getItem_list_neg (items := (ys ++ [Value.int (ys.length : Int) (tk₁ + 1)]).toArray) (x := Value.int (ys.length : Int) (tk₁ + 1)) ⟨_, F2.get (.head _), rfl, _, rfl⟩ (by decide) (by simp; omega) (by decide) ?_ ?_) rfl
  · have : ((-1 : Int) + ((ys ++ [Value.int (ys.length : Int) (tk₁ + 1)]).toArray.size : Int)).toNat = ys.length := by simp; omega
    rw [this]; simp
  walk_at "ms"
  refine ⟨by rw [sizeLine_eq]; simp, fun T h3 k3 n3 e3 => ?_⟩
  try dsimp only
  refine hret T _ _ h3 _ (fun b o hb e => k3 _ _ (F2.keep b o (hideAll_get _ e (by simpa using hb)))) (k3 _ _ (F2.get (.head _))) (isNone_of fun o e => ?_) e3
  by_cases q : T = ma
  · have := F2.get (.head _); rw [← q, n3] at this; cases this
  · have := F2.keep T o (hideAll_get _ e (by simpa using q)); rw [n3] at this; cases this

theorem k65 (w : World) : ∃ oc od cd sl, (hd.heap_39 w.params).lookup 65 = some ⟨oc, od, .cls cd, sl⟩ ∧ cd.abstract = false ∧ cd.hasDel = false ∧ (sl.toList[4]?).join = some (.builtin "dict.__new__") ∧
    cd.mro = [.ref 65, .type "collections.defaultdict", .type "dict", .type "object"] := ⟨_, _, _, _, rfl, rfl, rfl, rfl, rfl⟩
theorem f65 (w : World) : findIn (hd.heap_39 w.params) (.ref 65) "__init__" = some (some (.builtin "collections.defaultdict.__init__")) := by exact rfl
theorem c65 (w : World) : specialIn (hd.heap_39 w.params) (.ref 65) "__call__" = some (some (.builtin "type.__call__")) ∧ instIn (hd.heap_39 w.params) (.ref 65) (.type "type") = some true := ⟨by exact rfl, by exact rfl⟩
/-- what making a FreezableDefaultDict looks at -/
structure Mk (M : Model) (h : Heap) : Prop where
  obj : ∃ oc od cd sl, h.get? 65 = some ⟨oc, od, .cls cd, sl⟩ ∧ cd.abstract = false ∧ cd.hasDel = false ∧ cd.mro = [.ref 65, .type "collections.defaultdict", .type "dict", .type "object"]
  mro : Looks M h (mroOf (.ref 65)) [.ref 65, .type "collections.defaultdict", .type "dict", .type "object"]
  made : Looks M h (Bind.madeBy (.ref 65)) (some "dict.__new__")
  base : Looks M h (Bind.staticBase (.ref 65)) (.ref 65)
  self : Looks M h (isSubtype (.ref 65) (.ref 65)) true
  dct : Looks M h (isSubtype (.ref 65) (.type "dict")) true
  dd : Looks M h (isSubtype (.ref 65) (.type "collections.defaultdict")) true
  ord : Looks M h (isSubtype (.ref 65) (.type "collections.OrderedDict")) false
  call : Looks M h (specialOf (.ref 65) "__call__") (some (.builtin "type.__call__"))
  typ : Looks M h (isInstance (.ref 65) (.type "type")) true
  init : Looks M h (typeLookup (.ref 65) "__init__") (some (.builtin "collections.defaultdict.__init__"))
theorem mk_of {M : Model} {w : World} {h : Heap} (X : (hd.heap_39 w.params).In h) : Mk M h := by
  obtain ⟨oc, od, cd, sl, ho, e1, e2, e3, e4⟩ := k65 w
  have hc : clsIn (hd.heap_39 w.params) 65 = some cd := by unfold clsIn; rw [ho]
  have hm : Looks M h (mroOf (.ref 65)) cd.mro := (looks_clsIn X hc).andThen .now
  rw [e4] at hm
  have made : Looks M h (Bind.madeBy (.ref 65)) (some "dict.__new__") := by
    intro A Q E s k q
    unfold Bind.madeBy
    refine wpAny_bind (hm A _ E s k ?_)
    rw [List.forIn_cons]
    refine wpAny_bind (wpAny_bind (wpAny_bind (wpAny_bind (wpAny_loadPart (k _ _ (X _ _ ho)) (wpAny_pure ?_)))))
    dsimp only
    rw [← Array.getElem?_toList, e3]
    exact wpAny_pure (wpAny_pure (wpAny_pure q))
  have sub : ∀ T r, (([Value.ref 65, .type "collections.defaultdict", .type "dict", .type "object"] : List Value).contains T) = r → Looks M h (isSubtype (.ref 65) T) r := by
    intro T r e
    refine looks_mroIn X ?_
    unfold mroIn
    rw [hc, Option.bind_some, e4, if_neg (by decide), e]
  refine ⟨⟨oc, od, cd, sl, X _ _ ho, e1, e2, e4⟩, hm, made, ?_, sub _ _ (by decide), sub _ _ (by decide), sub _ _ (by decide), sub _ _ (by decide), looks_specialIn X (c65 w).1, looks_instIn X (c65 w).2, looks_findIn X (f65 w)⟩
  intro A Q E s k q
  unfold Bind.staticBase
  refine wpAny_bind (hm A _ E s k ?_)
  rw [List.forIn_cons]
  exact wpAny_bind (wpAny_bind (wpAny_bind (made A _ E s k (wpAny_pure (wpAny_pure (wpAny_pure q))))))

theorem dn_split : splitId "dict.__new__" = some ("dict", "__new__") := by decide +kernel
theorem dn_kind : builtinKind "dict.__new__" = some .builtinFn := by decide +kernel
theorem dn_entry : entryFor table "dict.__new__" = some Builtin.«dict.__new__» := entryFor_of_tree (by kernel_rfl)
theorem dn_args (a : Value) (rest : List Value) : argsOk "dict.__new__" ⟨a :: rest, []⟩ := by unfold argsOk; kernel_rfl
abbrev bookNew (dx : Addr) : Obj := { cls := .ref 65, dict := some dx, data := .dict #[] }
abbrev bookO (dx : Addr) (es : List DictEntry) (n : Nat) (lam : Addr) : Obj := ⟨.ref 65, some dx, .dict es.toArray n, #[some (.ref lam)]⟩
section
variable {M : Model} {A : Around} {E : Value → Shared → Prop} {s : Shared}
theorem nd_update {α : Type} {a : Addr} {part : Option Value} {f : Obj → Obj} {k : Unit → Sem α} {o : Obj} {Q : α → Shared → Prop} (ho : s.heap.get? a = some o) (h : wpAny M A (k ()) Q E { s with heap := s.heap.update a f }) :
    wpAny M A (.update a part f k) Q E s := by
  show wpAny M A ((updatePart a part f).bind k) Q E s
  exact wpAny_bind (wpAny_updatePart ho h)
end
section
variable {prog : Program} {w : World} {A : Around} {R : Result → Shared → Prop} {h : Heap} {g : Array GenState} {d : Drawn} {t : Nat} {os : OsState}
theorem dd_new {rest : List Value} (Y : Mk (model prog w) h) (hq : R (.ok (.ret (.ref (h.objs.size + 1)))) ⟨(h.push emptyDict).push (bookNew h.objs.size), g, d, t, os⟩) :
    codeAny (model prog w) A (.call (.builtin "dict.__new__") ⟨.ref 65 :: rest, []⟩) R ⟨h, g, d, t, os⟩ := by
  obtain ⟨⟨oc, od, cd, sl, hC, e1, e2, e4⟩, mro, made, base, self, dct, dd, ord, call, typ, init⟩ := Y
  refine codeAny_call_builtin_at (Code.quiet_builtin _ (by decide +kernel)) dn_entry ?_
  simp only [checkBuiltinCall, dn_kind, dn_split]
  have isT : Looks (model prog w) h (isType (.ref 65)) true := (Looks.ld hC).andThen .now
  have args : ∀ a rest sig, Manifest.signature? "dict.__new__" = some sig → Bind.checkArgs "dict.__new__" sig ⟨a :: rest, []⟩ = pure () := fun a rest sig e => by
    have := dn_args a rest
    unfold argsOk at this
    rw [e] at this
    exact this
  rw [if_pos (by decide)]
  have hC' : ((h.push emptyDict).push (bookNew h.objs.size)).get? 65 = some ⟨oc, od, .cls cd, sl⟩ := Heap.get?_push_of_some _ (Heap.get?_push_of_some _ hC)
  repeat (first | simp only [Bool.not_true, bne_self_eq_false, Bool.false_eq_true, if_false] | lk)
  simp only [e2, Bool.false_eq_true, if_false]
  refine wpAny_pure (wpAny_pure ?_)
  rw [Heap.size_push]
  exact hq

theorem sp_fn {lam : Addr} {o : Obj} (hl : h.get? lam = some o) (hc : o.cls = .type "function") : Looks (model prog w) h (specialOf (.ref lam) "__call__") (some (.builtin "function.__call__")) := by
  unfold specialOf
  have t : Looks (model prog w) h (typeOf (.ref lam)) (.type "function") := hc ▸ (Looks.ld hl).andThen .now
  refine t.andThen (Looks.of_pure ?_)
  rw [typeLookup_type, builtinLookup_eq_fast]; kernel_rfl
theorem di_bind (self : Value) : bindSpecial (.builtin "collections.defaultdict.__init__") self = pure (.builtin "collections.defaultdict.__init__", [self]) :=
  (Slot.of (T := "collections.defaultdict") (name := "__init__") (owner := "collections.defaultdict") (n := "__init__") (by rw [typeLookup_type, builtinLookup_eq_fast]; kernel_rfl) (by decide +kernel) (by decide +kernel) (by decide +kernel)
    (.inl (by decide +kernel)) (by rw [isSubtype_type]; kernel_rfl)).bind self
theorem di_kind : builtinKind "collections.defaultdict.__init__" = some .slot := by decide +kernel
theorem di_split : splitId "collections.defaultdict.__init__" = some ("collections.defaultdict", "__init__") := by decide +kernel
theorem di_args (a : Value) (rest : List Value) : argsOk "collections.defaultdict.__init__" ⟨a :: rest, []⟩ := by unfold argsOk; kernel_rfl
theorem di_entry : entryFor table "collections.defaultdict.__init__" = some Builtin.«collections.defaultdict.__init__» := entryFor_of_tree (by kernel_rfl)
theorem d0_entry : entryFor table "dict.__init__" = some Builtin.«dict.__init__» := entryFor_of_tree (by kernel_rfl)


set_option maxHeartbeats 1000000 in
theorem dd_init {h₀ : Heap} {x lam dx : Addr} {o : Obj} (Y : Mk (model prog w) h₀) (k0 : h₀.StaysIn h) (n1 : h₀.get? x = none) (hl : h.get? lam = some o) (hc : o.cls = .type "function") (hx : h.get? x = some (bookNew dx)) 
    (hq : ∀ h', Heap.SameBut x h h' → h'.get? x = some (bookO dx [] 0 lam) → R (.ok (.ret .none)) ⟨h', g, d, t, os⟩) :
    codeAny (model prog w) A (.call (.builtin "collections.defaultdict.__init__") ⟨[.ref x, .ref lam], []⟩) R ⟨h, g, d, t, os⟩ := by
  obtain ⟨⟨oc, od, cd, sl, hC, e1, e2, e4⟩, mro, made, base, self, dct, dd, ord, call, typ, init⟩ := Y
  have t1 : Looks (model prog w) h (typeOf (.ref x)) (.ref 65) := (Looks.ld hx).andThen .now
  have iI : Looks (model prog w) h (isInstance (.ref x) (.type "collections.defaultdict")) true := t1.andThen (dd.keeps k0)
  refine codeAny_call_builtin_at (Code.quiet_builtin _ (by decide +kernel)) di_entry ?_
  have q1 := fun Q E A => @check_slot (model prog w) A E ⟨h, g, d, t, os⟩ "collections.defaultdict.__init__" "collections.defaultdict" "__init__" (.ref x) [.ref lam] [] Q di_kind
  have q2 := fun Q E A => q1 Q E A di_split
  have q3 := fun Q E A => q2 Q E A iI
  have q4 := fun Q E A => q3 Q E A (di_args _ _)
  refine q4 _ _ _ ?_
  unfold Builtin.«collections.defaultdict.__init__»
  have e0 : ((bookNew dx).slots[0]?).join = none := rfl
  have sf := sp_fn (prog := prog) (w := w) hl hc
  repeat (first | simp only [e0, Option.isNone_some, Bool.false_eq_true, if_false] | lk)
  refine nd_update (s := ⟨h, g, d, t, os⟩) hx ?_
  have h3x : (h.update x fun o => { o with slots := (o.slots ++ Array.replicate (0 + 1 - o.slots.size) none).setIfInBounds 0 [Value.ref lam].head? }).get? x = some (bookO dx [] 0 lam) := Heap.get?_update_self _ hx (by rfl)
  have hs3 := Heap.SameBut.update h x (fun o => { o with slots := (o.slots ++ Array.replicate (0 + 1 - o.slots.size) none).setIfInBounds 0 [Value.ref lam].head? })
  have hq3 := hq _ hs3 h3x
  dsimp only
  repeat (first | with_reducible refine wpAny_run ?_ | with_reducible refine wpAny_runValue ?_ | with_reducible refine wpAny_holding ?_ | with_reducible refine wpAny_bind ?_ | refine wpAny_pure ?_ )
  refine codeAny_builtin d0_entry ?_
  unfold Builtin.«dict.__init__» Builtin.Dict.selfAndRest Builtin.Dict.notOrdered
  dsimp only
  generalize (h.update x fun o => { o with slots := (o.slots ++ Array.replicate (0 + 1 - o.slots.size) none).setIfInBounds 0 [Value.ref lam].head? }) = h3 at *
  have k3 : h₀.StaysIn h3 := fun b o e => (hs3.2 b (fun q => by rw [q, n1] at e; cases e)).trans (k0 _ _ e)
  have t3 : Looks (model prog w) h3 (typeOf (.ref x)) (.ref 65) := (Looks.ld h3x).andThen .now
  have o3 := ord.keeps k3
  repeat lk
  exact hq3
set_option maxHeartbeats 4000000 in
theorem book_make {lam : Addr} {o : Obj} (X : (hd.heap_39 w.params).In h) (hl : h.get? lam = some o) (hc : o.cls = .type "function")
    (hq : ∀ b dx h' tk', 65 < b → h.StaysIn h' → h.get? b = none → h.get? dx = none → b ≠ dx → h'.get? b = some (bookO dx [] 0 lam) → h'.get? dx = some (dictOf [] 0) → R (.ok (.ret (.ref b))) ⟨h', g, d, tk', os⟩) :
    codeAny (model prog w) A (.call (.ref 65) ⟨[.ref lam], []⟩) R ⟨h, g, d, t, os⟩ := by
  have Y := mk_of (M := model prog w) X
  have Y' := Y
  obtain ⟨⟨oc, od, cd, sl, hC, e1, e2, e4⟩, mro, made, base, self, dct, dd, ord, call, typ, init⟩ := Y
  refine codeAny_of_tree ?_
  show wpAny _ _ (callAny (.ref 65) _) _ _ _
  refine nd_load hC ?_
  show wpAny _ _ (callAny.viaDunder (.ref 65) _) _ _ _
  unfold callAny.viaDunder
  refine wpAny_bind (call.at ?_)
  dsimp only
  rw [tc_bind]
  refine wpAny_bind (wpAny_pure (wpAny_bind (wpAny_pure ?_)))
  refine wpAny_pure (a := Fin.again (.call (.builtin "type.__call__") ⟨.ref 65 :: [.ref lam], []⟩)) (And.intro rfl ?_)
  refine codeAny_call_builtin_at (Code.quiet_builtin _ (by decide +kernel)) entry_typeCall (check_slot tc_kind tc_split typ (tc_args _ _ _) ?_)
  unfold Builtin.«type.__call__»
  repeat (first | simp only [List.isEmpty_cons, Bool.false_eq_true, if_false] | with_reducible refine wpAny_call ?_ | lk)
  refine dd_new Y' ?_
  have k : ∀ b o, h.get? b = some o → ((h.push emptyDict).push (bookNew h.objs.size)).get? b = some o := fun b o e => Heap.get?_push_of_some _ (Heap.get?_push_of_some _ e)
  have hx : ((h.push emptyDict).push (bookNew h.objs.size)).get? (h.objs.size + 1) = some (bookNew h.objs.size) := by heap_get
  have hdx : ((h.push emptyDict).push (bookNew h.objs.size)).get? h.objs.size = some emptyDict := by heap_get
  have n1 : h.get? (h.objs.size + 1) = none := isNone_of fun o e => absurd (Heap.lt_size e) (Nat.not_lt.mpr (Nat.le_succ _))
  have n0 := none_size h
  have hl' := k _ _ hl
  have nex : h.objs.size + 1 ≠ h.objs.size := Nat.succ_ne_self _
  have lt65 : 65 < h.objs.size + 1 := Nat.lt_succ_of_lt (Heap.lt_size hC)
  generalize (h.push emptyDict).push (bookNew h.objs.size) = h2 at *
  generalize h.objs.size + 1 = x at *
  generalize hdxe : h.objs.size = dx at *
  have t1 : Looks (model prog w) h2 (typeOf (.ref x)) (.ref 65) := (Looks.ld hx).andThen .now
  have s1 := self.keeps k
  have i1 := init.keeps k
  have b1 : Looks (model prog w) h2 (bindSpecial (.builtin "collections.defaultdict.__init__") (.ref x)) (.builtin "collections.defaultdict.__init__", [.ref x]) := Looks.of_pure (di_bind _)
  unfold isInstance callSpecial? specialOf
  repeat (first | with_reducible refine wpAny_call ?_ | lk)
  refine codeAny_mono (R := InitBack x R) ?_ fun r s' z => ?_
  · refine dd_init Y' k n1 hl' hc hx fun h3 hs3 h3x => ⟨rfl, ?_⟩
    refine hq x dx h3 _ lt65 (fun b o e => (hs3.2 b (fun q => by rw [q, n1] at e; cases e)).trans (k _ _ e)) n1 n0 nex h3x ((hs3.2 _ (Ne.symm nex)).trans hdx)
  · rcases r with e | (v | _ | _ | _) <;> first | exact z | exact z.elim | skip
    obtain ⟨rfl, z⟩ := z
    exact wpAny_pure (wpAny_pure z)
end

theorem gi65 (w : World) : findIn (hd.heap_39 w.params) (.ref 65) "__getitem__" = some (some (.builtin "dict.__getitem__")) := by exact rfl
theorem mi65 (w : World) : findIn (hd.heap_39 w.params) (.ref 65) "__missing__" = some (some (.ref 55)) := by exact rfl
theorem gi_kind : builtinKind "dict.__getitem__" = some .method := by decide +kernel
theorem gi_split : splitId "dict.__getitem__" = some ("dict", "__getitem__") := by decide +kernel
def findV (es : List DictEntry) (x : Str) : Option Value := (es.find? fun e => e.key.isStr x).map (·.val)
section
variable {prog : Program} {w : World} {A : Around} {E : Value → Shared → Prop} {s : Shared}
theorem borrowed_call {f : Value} {pos : List Value} {Q : Value → Shared → Prop}
    (hc : codeAny (model prog w) A (.call f ⟨pos, []⟩) (fun r s' => match r with | .ok (.ret v) => Q v s' | .ok _ => False | .error e => E e s') s) : wpAny (model prog w) A (callBorrowed f pos) Q E s := by
  intro Γ p hΓ
  refine codeAny_mono hc ?_ _ p rfl (hΓ.enter _ none p (by intro x; cases x))
  rintro (e | (v | _ | _ | _)) s' hr <;> first | exact hr | exact hr.elim
theorem item65 {value slice : Expr} {b : Addr} {ob : Obj} {x : Str} {t : Tok} {Q : Value → Shared → Prop} (X : (hd.heap_39 w.params).In s.heap) (hb : s.heap.get? b = some ob) (hc : ob.cls = .ref 65)
    (h : codeAny (model prog w) A (.call (.builtin "dict.__getitem__") ⟨[.ref b, .str x t], []⟩) (fun r s' => match r with | .ok (.ret v) => Q v s' | .ok _ => False | .error e => E e s') s)
    (hs : subscripted slice false (.ref b) (.str x t) = operate [.ref b, .str x t] (getItem (.ref b) (.str x t)) := by with_unfolding_all rfl) (hv : ∀ r, letTemporaryGo value (.ref b) r = pure () := by intro _; with_unfolding_all rfl) :
    wpAny (model prog w) A (subscriptTail value slice (.ref b) (.str x t)) Q E s := by
  have t1 : Looks (model prog w) s.heap (typeOf (.ref b)) (.ref 65) := hc ▸ (Looks.ld hb).andThen .now
  have dq : Looks (model prog w) s.heap (isSubtype (.ref 65) (.type "collections.deque")) false := by
    refine looks_mroIn X ?_
    exact rfl
  have gi := looks_findIn (M := model prog w) X (gi65 w)
  have sp : Looks (model prog w) s.heap (specialOf (.ref b) "__getitem__") (some (.builtin "dict.__getitem__")) := t1.andThen gi
  have b1 : Looks (model prog w) s.heap (bindSpecial (.builtin "dict.__getitem__") (.ref b)) (.builtin "dict.__getitem__", [.ref b]) := Looks.of_pure (slot_dict_getitem.bind _)
  have sq : Looks (model prog w) s.heap (sequenceKey (.ref b) (.str x t) "__getitem__") (.str x t) := by
    intro A Q E s' k q
    have t1 := t1.keeps k
    have dq := dq.keeps k
    unfold sequenceKey
    refine wpAny_bind (t1.here ?_)
    dsimp only
    simp only [seqItemTypes, List.anyM]
    repeat (first | simp only [Bool.not_false, if_true] | lk)
    exact q
  unfold subscriptTail
  refine wpAny_bind ?_
  have gp : Looks (model prog w) s.heap (getitemInPython (.ref b)) false := sp.andThen .now
  refine gp.here ?_
  rw [hs]
  refine wpAny_bind (wpAny_operating ?_)
  unfold getItem callSpecial?
  repeat (first | with_reducible refine wpAny_call ?_ | lk)
  refine codeAny_mono h fun r s' z => ?_
  rcases r with e | (v | _ | _ | _) <;> first | exact z | exact z.elim | skip
  refine wpAny_pure (wpAny_pure (wpAny_bind ?_))
  rw [hv]
  exact wpAny_pure (wpAny_pure z)

theorem dictGet_book {b dx lam : Addr} {es : List DictEntry} {n : Nat} {x : Str} {t : Tok} {Q : Option Value → Shared → Prop} (ho : s.heap.get? b = some (bookO dx es n lam)) (hall : (es.all fun e => isExactStrKey e.key) = true)
    (h : Q (findV es x) { s with toks := s.toks + 1 }) : wpAny (model prog w) A (dictGet b (.str x t)) Q E s := by
  unfold dictGet
  try with_reducible refine wpAny_holding ?_
  refine wpAny_bind (wpAny_pyHash_str (wpAny_bind (KTD.kt_dictFind_strs (s := { s with toks := s.toks + 1 }) ho rfl (by simpa using hall) ?_)))
  have hq : Q (findBy (fun k v => v.isStr k) es.toArray x) { s with toks := s.toks + 1 } := by
    have hf : findBy (fun k v => v.isStr k) es.toArray x = findV es x := by simp [findBy, findV]
    rw [hf]; exact h
  rw [findBy_of_findIdx?] at hq
  cases hi : es.toArray.findIdx? fun e => e.key.isStr x with
  | none => rw [hi] at hq; exact wpAny_pure hq
  | some i => rw [hi] at hq; exact wpAny_bind (wpAny_dictEntries (s := { s with toks := s.toks + 1 }) ho rfl (wpAny_pure hq))
end
section
variable {prog : Program} {w : World} {A : Around} {R : Result → Shared → Prop} {h : Heap} {g : Array GenState} {d : Drawn} {tk : Nat} {os : OsState}
theorem get65 {b dx lam : Addr} {es : List DictEntry} {n : Nat} {x : Str} {t : Tok} (X : (hd.heap_39 w.params).In h) (ho : h.get? b = some (bookO dx es n lam)) (hall : (es.all fun e => isExactStrKey e.key) = true) (hb : 65 < b)
    (h1 : ∀ v, findV es x = some v → R (.ok (.ret v)) ⟨h, g, d, tk + 1, os⟩)
    (h2 : findV es x = none → codeAny (model prog w) A.in1 (.call (.ref 55) ⟨[.ref b, .str x t], []⟩) (fun r s' => match r with | .ok (.ret v) => R (.ok (.ret v)) s' | .ok _ => False | .error e => R (.error e) s') ⟨h, g, d, tk + 1, os⟩) :
    codeAny (model prog w) A (.call (.builtin "dict.__getitem__") ⟨[.ref b, .str x t], []⟩) R ⟨h, g, d, tk, os⟩ := by
  have Y := mk_of (M := model prog w) X
  obtain ⟨⟨oc, od, cd, sl, hC, e1, e2, e4⟩, mro, made, base, self, dct, dd, ord, call, typ, init⟩ := Y
  have t1 : Looks (model prog w) h (typeOf (.ref b)) (.ref 65) := (Looks.ld ho).andThen .now
  have iI : Looks (model prog w) h (isInstance (.ref b) (.type "dict")) true := t1.andThen dct
  have mi := looks_findIn (M := model prog w) X (mi65 w)
  refine codeAny_call_builtin_at (Code.quiet_builtin _ (by decide +kernel)) entry_dict_getitem ?_
  refine @kfo_check (model prog w) _ _ _ "dict.__getitem__" "dict" "__getitem__" (.ref b) [.str x t] [] _ gi_kind gi_split iI (args_dict_getitem _ _) ?_
  rw [Around.under_plainId (by decide +kernel) _]
  show wpAny _ _ (dictGet b (.str x t) >>= _) _ _ _
  refine wpAny_bind (dictGet_book ho hall ?_)
  cases hf : findV es x with
  | some v => exact wpAny_pure (h1 v hf)
  | none =>
    have h2 := h2 hf
    have hns : (b == sysModules) = false := by rw [beq_eq_false_iff_ne]; intro q; rw [q] at hb; exact absurd hb (by decide)
    dsimp only
    have mm : Looks (model prog w) h (Builtin.Dict.missed b (.str x t)) none := by
      intro A Q E s k q
      unfold Builtin.Dict.missed
      rw [hns]
      exact wpAny_pure q
    have sp : Looks (model prog w) h (specialOf (.ref b) "__missing__") (some (.ref 55)) := t1.andThen mi
    have b1 : Looks (model prog w) h (bindSpecial (.ref 55) (.ref b)) (.ref 55, [.ref b]) := bind_fn X _ (by exact rfl)
    unfold callSpecial?
    repeat (first | with_reducible refine wpAny_call ?_ | lk)
    refine codeAny_mono h2 fun r s' z => ?_
    rcases r with e | (v | _ | _ | _) <;> first | exact z | exact z.elim | skip
    refine wpAny_pure ?_
    repeat lk
    exact z
end

/-- the frame of a method that speaks of its own class -/
theorem enterAt {prog : Program} {w : World} {A : Around} {s : Shared} {K : Frag} {R : Result → Shared → Prop} {name qual : Str} {params : Arguments} {body : List Stmt} {scope : Scope} {dV kV doc pm cdv ct oc : Value} {an od : Option Addr} {osl : Array (Option Value)} {f cc : Addr} {args : Args} {binds : List (Str × Value)} {dd u : Nat}
    (X : K.In s.heap) (hlim : s.heap.NoLimit) (rm : Rm A (dd + 1) (u + 3))
    (ho : K.lookup f = some ⟨oc, od, .func (ksFn name qual params body scope dV kV doc pm an cdv ct cc), osl⟩) (hcd : codeIn K cdv qual = true)
    (hbind : BindsTo s (ksFn name qual params body scope dV kV doc pm an cdv ct cc) args binds) (hloc : ∀ y ∈ binds, scope.names.lookup y.1 = some .local)
    (h : ∀ L h₁ tk₁ A' E' m, Fr s.heap L h₁ m → m = (fun y => binds.reverse.lookup y) → Rm A' dd u →
      PySem.wpAt (model prog w) A' (.func body (ksEnv qual scope L f cdv cc)) (execs body (ksEnv qual scope L f cdv cc)) (fun fl s' => R (.ok (.ret (match fl with | .ret v => v | _ => .none))) s') E' { s with heap := h₁, toks := tk₁ })
    (hco : scope.isCoroutine = false := by rfl) (hgen : scope.isGenerator = false := by rfl) (hk : scope.kind = .function := by rfl)
    (hcell : ∀ x ∈ scope.names, x.2 ≠ .cell := by decide) : codeAny (model prog w) A (.call (.ref f) args) R s :=
  ks_codeAny_call_defAt (fd := ksFn name qual params body scope dV kV doc pm an cdv ct cc) (body := body) (binds := binds) rm.room (X _ _ ho) rfl hlim (codeRec_of X hcd) rfl hbind hcell hloc
    (fun h₁ hns hk₁ => h _ h₁ _ _ _ _ ⟨hns, hk₁, Nat.le_refl _⟩ rfl (rm.deeper _)) hco hgen hk

theorem mname : (toString "collections.defaultdict" ++ toString "." ++ toString (Str.ofString "__missing__").toString) = "collections.defaultdict.__missing__" := by decide +kernel
theorem mowner : ".".intercalate ("collections.defaultdict.__missing__".cutAt '.').dropLast = "collections.defaultdict" := by decide +kernel
theorem md_kind : builtinKind "method_descriptor.__get__" = some .slot := by decide +kernel
theorem md_split : splitId "method_descriptor.__get__" = some ("method_descriptor", "__get__") := by decide +kernel
theorem md_inst : isInstance (.builtin "collections.defaultdict.__missing__") (.type "method_descriptor") = pure true := by kernel_rfl
theorem entry_md_get : entryFor table "method_descriptor.__get__" = some Builtin.«method_descriptor.__get__» := entryFor_of_tree (by kernel_rfl)
theorem args_md_get (a b c : Value) : argsOk "method_descriptor.__get__" ⟨[a, b, c], []⟩ := by unfold argsOk; kernel_rfl
section
variable {prog : Program} {w : World} {A : Around} {E : Value → Shared → Prop} {h : Heap} {g : Array GenState} {d : Drawn} {t : Nat} {os : OsState}
abbrev missObj (b : Addr) : Obj := { cls := .type "builtin_function_or_method", dict := none, data := .fields #[.builtin "collections.defaultdict.__missing__", .ref b], slots := #[] }
set_option maxHeartbeats 4000000 in
theorem super_ga {so b dx lam : Addr} {es : List DictEntry} {n : Nat} {tk : Tok} {Q : Fin → Shared → Prop} (X : (hd.heap_39 w.params).In h)
    (hso : h.get? so = some { cls := .type "super", dict := none, data := .fields #[.ref 65, .ref b, .ref 65], slots := #[] }) (hb : h.get? b = some (bookO dx es n lam)) (hb65 : 65 < b)
    (hq : ∀ T h', h.StaysIn h' → h.get? T = none → h'.get? T = some (missObj b) → Q (.done (.ret (.ref T))) ⟨h', g, d, t, os⟩) :
    wpAny (model prog w) A (Builtin.«super.__getattribute__» ⟨[.ref so, .str "__missing__" tk], []⟩) Q E ⟨h, g, d, t, os⟩ := by
  have hne : (Value.ref b == Value.ref 65) = false := by rw [beq_eq_false_iff_ne]; intro q; cases q; exact absurd hb65 (Nat.lt_irrefl _)
  have hdt : ({ cls := .type "super", dict := none, data := .fields #[.ref 65, .ref b, .ref 65], slots := #[] } : Obj).data = .fields #[.ref 65, .ref b, .ref 65] := rfl
  have f0 : (#[.ref 65, .ref b, .ref 65] : Array Value)[0]? = some (.ref 65) := rfl
  have f1 : (#[.ref 65, .ref b, .ref 65] : Array Value)[1]? = some (.ref b) := rfl
  have f2 : (#[.ref 65, .ref b, .ref 65] : Array Value)[2]? = some (.ref 65) := rfl
  have hno : Looks (model prog w) h (opaqueClassAbove (.ref 65)) none := looks_opaque X (by exact rfl)
  have hC := (mk_of (M := model prog w) X).mro
  unfold Builtin.«super.__getattribute__»
  repeat (first
    | (with_reducible refine wpAny_field hso hdt f0 ?_) | (with_reducible refine wpAny_field hso hdt f1 ?_) | (with_reducible refine wpAny_field hso hdt f2 ?_)
    | (with_reducible refine ks_wpAny_notOpaque hno ?_)
    | (with_reducible refine Looks.at hC ?_)
    | wp_step
    | dsimp only)
  refine wpAny_of_eq (a := some (.builtin "method_descriptor.__get__")) (by rw [typeLookup_type, builtinLookup_eq_fast]; kernel_rfl) ?_
  have t1 : Looks (model prog w) h (typeOf (.ref b)) (.ref 65) := (Looks.ld hb).andThen .now
  have iI : Looks (model prog w) h (isInstance (.ref b) (.type "collections.defaultdict")) true := t1.andThen (mk_of (M := model prog w) X).dd
  repeat (first
    | (simp only [hne, Bool.false_eq_true, if_false])
    | wp_step
    | dsimp only)
  rw [mname]
  refine codeAny_call_builtin_at (Code.quiet_builtin _ (by decide +kernel)) entry_md_get ?_
  refine @check_slot (model prog w) _ _ _ "method_descriptor.__get__" "method_descriptor" "__get__" (.builtin "collections.defaultdict.__missing__") [.ref b, .ref 65] [] _ md_kind md_split (Looks.of_pure md_inst) (args_md_get _ _ _) ?_
  unfold Builtin.«method_descriptor.__get__»
  repeat (first
    | (with_reducible refine Looks.at iI ?_)
    | (simp only [hne, Bool.false_eq_true, if_false])
    | wp_step
    | dsimp only)
  rw [mowner]
  refine (mk_of (M := model prog w) X).dd.here ?_
  repeat wp_step
  exact hq _ _ (stays_push _ _) (none_size _) (Heap.get?_push_size _ rfl)
end

theorem ga65 (w : World) : findIn (hd.heap_39 w.params) (.ref 65) "__getattribute__" = some (some (.builtin "collections.defaultdict.__getattribute__")) := by
  have e : (toString "collections.defaultdict" ++ toString "." ++ toString (Str.ofString "__getattribute__").toString) = "collections.defaultdict.__getattribute__" := by decide +kernel
  rw [← e]; exact rfl
theorem gh65 (w : World) : findIn (hd.heap_39 w.params) (.ref 65) "__getattr__" = some none := by exact rfl
theorem ga_entry : entryFor table "collections.defaultdict.__getattribute__" = some Builtin.«object.__getattribute__» :=
  entryFor_alias (id' := "object.__getattribute__") (by rw [fastTable_eq_tree]; kernel_rfl) (by decide +kernel) (by decide +kernel) (by rw [fastTable_eq_tree]; kernel_rfl)
theorem ga_kind : builtinKind "collections.defaultdict.__getattribute__" = some .slot := by decide +kernel
theorem ga_split : splitId "collections.defaultdict.__getattribute__" = some ("collections.defaultdict", "__getattribute__") := by decide +kernel
theorem ga_args (a b : Value) : argsOk "collections.defaultdict.__getattribute__" ⟨[a, b], []⟩ := by unfold argsOk; kernel_rfl
theorem ga_slot : Slot "collections.defaultdict" "__getattribute__" "collections.defaultdict.__getattribute__" := .of (owner := "collections.defaultdict") (n := "__getattribute__") (by rw [typeLookup_type, builtinLookup_eq_fast]; kernel_rfl) (by decide +kernel) (by decide +kernel) (by decide +kernel)
  (.inl (by decide +kernel)) (by rw [isSubtype_type]; kernel_rfl)

theorem k65n (w : World) : ∃ oc od cd sl, (hd.heap_39 w.params).lookup 65 = some ⟨oc, od, .cls cd, sl⟩ ∧ cd.name = "FreezableDefaultDict" := ⟨_, _, _, _, rfl, rfl⟩
section
variable {prog : Program} {w : World} {A : Around} {E : Value → Shared → Prop} {R : Result → Shared → Prop} {h : Heap} {g : Array GenState} {d : Drawn} {t : Nat} {os : OsState}
set_option maxHeartbeats 4000000 in
theorem own_ga {b dx lam : Addr} {es as : List DictEntry} {n na : Nat} {name : Str} {tn : Tok} {r : Builtin.ObjectAttr.Found} (X : (hd.heap_39 w.params).In h) (hh : A.handled = none) (hnl : name.length ≤ 100)
    (hb : h.get? b = some (bookO dx es n lam)) (hdx : h.get? dx = some (dictOf as na)) (hf : findObj (hd.heap_39 w.params) 65 (some (dictOf as na)) name = some r)
    (hq : match r with
      | .value v => R (.ok (.ret v)) ⟨h, g, d, t, os⟩
      | .bind gg a => codeAny (model prog w) A.in1 (.call gg ⟨[a, .ref b, .ref 65], []⟩) (fun r s' => match r with | .ok (.ret v) => R (.ok (.ret v)) s' | .ok _ => False | .error e => R (.error e) s') ⟨h, g, d, t, os⟩
      | .missing => ∀ h' tk' e, Heap.NewAttrErr h h' e (.ref b) name → R (.error (.ref e)) ⟨h', g, d, tk', os⟩) :
    codeAny (model prog w) A (.call (.builtin "collections.defaultdict.__getattribute__") ⟨[.ref b, .str name tn], []⟩) R ⟨h, g, d, t, os⟩ := by
  have I : InstAt h b (bookO dx es n lam) 65 (some (dictOf as na)) := ⟨hb, rfl, rfl, hdx⟩
  have L0 := I.type (M := model prog w)
  have L1 := looks_find (M := model prog w) X I hf
  have iI : Looks (model prog w) h (isInstance (.ref b) (.type "collections.defaultdict")) true := L0.andThen (mk_of (M := model prog w) X).dd
  refine codeAny_call_builtin_at (Code.quiet_builtin _ (by decide +kernel)) ga_entry ?_
  refine @check_slot (model prog w) _ _ _ "collections.defaultdict.__getattribute__" "collections.defaultdict" "__getattribute__" (.ref b) [.str name tn] [] _ ga_kind ga_split iI (ga_args _ _) ?_
  rw [Around.under_plainId (by decide +kernel) _]
  unfold Builtin.«object.__getattribute__»
  refine wpAny_bind (wpAny_of_eq (a := (.ref b, [.str name tn])) (by first | rfl | kernel_rfl) ?_)
  dsimp only
  refine wpAny_bind (wpAny_of_eq (a := name) (by first | rfl | kernel_rfl) ?_)
  refine wpAny_bind (L0.at (wpAny_bind (L1.at ?_)))
  cases r with
  | value v => exact wpAny_pure hq
  | bind gg a =>
    refine wpAny_bind (wpAny_holding (wpAny_call (codeAny_mono hq fun r s' z => ?_)))
    rcases r with e | (v | _ | _ | _) <;> first | exact z | exact z.elim | skip
    exact wpAny_pure z
  | missing =>
    dsimp only at hq ⊢
    rw [if_neg (by decide), if_neg (by decide)]
    unfold Builtin.ObjectAttr.noSuchAttribute PySem.typeNameOfCut shownTypeOf typeNameCut
    obtain ⟨oc65, od65, cd65, sl65, hC65, hnm⟩ := k65n w
    have hC := X _ _ hC65
    repeat lk
    rw [hnm, if_pos (by decide +kernel)]
    refine wpAny_pure ?_
    refine wpAny_raiseAttrError hh hq ?_
    rw [strLen_append, strLen_append]
    exact Nat.le_trans (Nat.add_le_add (Nat.add_le_add (show _ ≤ 100 from by decide +kernel) hnl) (show _ ≤ 10 from by decide +kernel)) (by rw [sizeLine_eq]; decide)

/-- an attribute of the book: by its own look-up -/
theorem book_by {b dx lam : Addr} {es as : List DictEntry} {n na : Nat} {name : Str} {tn : Tok} {ex fill : Bool} {r : Builtin.ObjectAttr.Found} {Q : Value → Shared → Prop} (X : (hd.heap_39 w.params).In h) (hh : A.handled = none) (hnl : name.length ≤ 100)
    (hb : h.get? b = some (bookO dx es n lam)) (hdx : h.get? dx = some (dictOf as na)) (hf : findObj (hd.heap_39 w.params) 65 (some (dictOf as na)) name = some r)
    (hq : match r with
      | .value v => handedIn v = true ∧ Q v ⟨h, g, d, t, os⟩
      | .bind gg a => codeAny (model prog w) A.in1 (.call gg ⟨[a, .ref b, .ref 65], []⟩) (fun r s' => match r with | .ok (.ret v) => handedIn v = true ∧ Q v s' | _ => False) ⟨h, g, d, t, os⟩
      | .missing => fill = false ∧ ∀ h' tk' e, Heap.NewAttrErr h h' e (.ref b) name → E (.ref e) ⟨h', g, d, tk', os⟩) :
    wpAny (model prog w) A (getAttrBy (.ref b) (.str name tn) fill ex) Q E ⟨h, g, d, t, os⟩ := by
  have I : InstAt h b (bookO dx es n lam) 65 (some (dictOf as na)) := ⟨hb, rfl, rfl, hdx⟩
  have L0 := I.type (M := model prog w)
  have L1 := looks_findIn (M := model prog w) X (ga65 w)
  have L2 := looks_findIn (M := model prog w) X (gh65 w)
  unfold getAttrBy
  refine wpAny_holding (wpAny_bind (L0.at (wpAny_bind (L1.at ?_))))
  show wpAny _ _ (getAttrByItsOwn (.ref b) (.str name tn) (.ref 65) (.builtin "collections.defaultdict.__getattribute__") fill ex) _ _ _
  unfold getAttrByItsOwn hookBefore callGetattribute boundAndCalled
  refine wpAny_bind (L2.at ?_)
  refine wpAny_bind (wpAny_attempt (wpAny_holding ?_))
  have e : (ex && onTheHeap (.builtin "collections.defaultdict.__getattribute__")) = false := by cases ex <;> rfl
  rw [e, if_neg Bool.false_ne_true]
  refine wpAny_bind (wpAny_of_eq (ga_slot.bind _) (wpAny_call ?_))
  show codeAny _ _ (.call (.builtin "collections.defaultdict.__getattribute__") ⟨[.ref b, .str name tn], []⟩) _ _
  refine own_ga X hh hnl hb hdx hf ?_
  cases r with
  | value v =>
    dsimp only at hq ⊢
    rw [handedOut_of hq.1]
    exact wpAny_pure hq.2
  | bind gg a =>
    dsimp only at hq ⊢
    refine codeAny_mono hq fun r s' z => ?_
    rcases r with e | (v | _ | _ | _) <;> first | exact z.elim | skip
    dsimp only at z ⊢
    rw [handedOut_of z.1]
    exact wpAny_pure z.2
  | missing =>
    dsimp only at hq ⊢
    intro h' tk' e N
    have q := hq.2 h' tk' e N
    obtain ⟨rfl, _⟩ := hq
    obtain ⟨u1, u2, he⟩ := N.there
    have ie : Looks (model prog w) h' (isInstance (.ref e) (.type "AttributeError")) true := ((Looks.ld he).andThen .now).andThen (Looks.of_pure sub_AttributeError)
    unfold getattributeRaised
    refine wpAny_bind (ie.at ?_)
    rw [if_pos rfl]
    refine wpAny_bind (wpAny_of_eq (a := none) rfl ?_)
    exact wpAny_throw q
end

theorem ga3_args (a b c : Value) : argsOk "getattr" ⟨[a, b, c], []⟩ := by unfold argsOk; kernel_rfl
theorem fz_none (w : World) : findIn (hd.heap_39 w.params) (.ref 65) "_frozen" = some none := by exact rfl
theorem fz_miss (w : World) {as : List DictEntry} {na : Nat} (hl : getL "_frozen" as = some none) : findObj (hd.heap_39 w.params) 65 (some (dictOf as na)) "_frozen" = some .missing := by
  obtain ⟨cd, hc', hd⟩ := any_some (show hasDictIn (hd.heap_39 w.params) 65 = true from by exact rfl)
  unfold findObj
  have ho : W.ownOf cd (some (dictOf as na)) "_frozen" = some none := by unfold W.ownOf; rw [if_pos hd]; show lookIn _ _ = _; rw [lookIn_dict, hl]
  have hcp : copiedNames.contains (Str.ofString "_frozen") = false := by decide +kernel
  rw [hc', Option.bind_some, fz_none w, Option.bind_some]
  simp only [Option.bind_some, ho, hcp, Bool.false_and, Bool.false_eq_true, if_false]
section
variable {prog : Program} {w : World} {A : Around} {E : Value → Shared → Prop} {h : Heap} {g : Array GenState} {d : Drawn} {t : Nat} {os : OsState}
set_option maxHeartbeats 4000000 in
theorem getattr3 {b dx lam : Addr} {es as : List DictEntry} {n na : Nat} {tn : Tok} {dflt : Value} {Q : Value → Shared → Prop} (X : (hd.heap_39 w.params).In h) (hh : A.handled = none)
    (hb : h.get? b = some (bookO dx es n lam)) (hdx : h.get? dx = some (dictOf as na))
    (hc : (getL "_frozen" as = some none ∧ ∀ h' tk', h.StaysIn h' → Q dflt ⟨h', g, d, tk', os⟩) ∨ ∃ v, getL "_frozen" as = some (some v) ∧ handedIn v = true ∧ Q v ⟨h, g, d, t, os⟩) :
    wpAny (model prog w) A (call (.builtin "getattr") [.ref b, .str "_frozen" tn, dflt]) Q E ⟨h, g, d, t, os⟩ := by
  have I : InstAt h b (bookO dx es n lam) 65 (some (dictOf as na)) := ⟨hb, rfl, rfl, hdx⟩
  have L0 := I.type (M := model prog w)
  have LM : Looks (model prog w) h (isSubtype (.ref 65) (.type "module")) false := looks_mroIn X (by exact rfl)
  refine Calls.call_function_entry KB.kind_getattr KB.plain_getattr KB.entry_getattr (ga3_args _ _ _) ?_
  unfold Builtin.«getattr»
  refine wpAny_bind (wpAny_of_eq (a := [.ref b, .str "_frozen" tn, dflt]) (by first | rfl | kernel_rfl) ?_)
  dsimp only
  refine wpAny_bind (wpAny_of_eq (a := ()) (by first | rfl | kernel_rfl) ?_)
  refine wpAny_bind (wpAny_of_eq (a := none) (by first | rfl | kernel_rfl) ?_)
  dsimp only
  refine wpAny_bind (wpAny_mono (Q := fun r s' => r = 0 ∧ s' = ⟨h, g, d, t, os⟩) (E := fun _ _ => False) ?_ ?_ (fun _ _ z => z.elim))
  · k_delta "optionalOnAModule"
    repeat lk
    exact ⟨rfl, rfl⟩
  rintro _ _ ⟨rfl, rfl⟩
  try dsimp only
  rw [if_neg (by decide)]
  unfold getAttrBy?
  refine wpAny_bind (wpAny_bind (wpAny_attempt ?_))
  rcases hc with ⟨hl, hq⟩ | ⟨v, hl, hv, hq⟩
  · refine book_by X hh (by decide) hb hdx (fz_miss w hl) ⟨rfl, fun h' tk' e N => ?_⟩
    obtain ⟨u1, u2, he⟩ := N.there
    have ie : Looks (model prog w) h' (isInstance (.ref e) (.type "AttributeError")) true := ((Looks.ld he).andThen .now).andThen (Looks.of_pure sub_AttributeError)
    try dsimp only
    refine wpAny_bind (ie.at ?_)
    rw [if_pos rfl]
    refine wpAny_pure ?_
    try dsimp only
    rw [if_neg (by decide)]
    exact wpAny_pure ⟨_, rfl, hq h' tk' N.keeps⟩
  · refine book_by X hh (by decide) hb hdx (findObj_own (by exact rfl) (fz_none w) (by exact rfl) (by show lookIn _ _ = _; rw [lookIn_dict, hl])) ⟨hv, ?_⟩
    try dsimp only
    exact wpAny_pure (wpAny_pure ⟨_, rfl, hq⟩)
end

theorem dm_entry : entryFor table "collections.defaultdict.__missing__" = some Builtin.«collections.defaultdict.__missing__» := entryFor_of_tree (by kernel_rfl)
theorem sd_entry : entryFor table "dict.setdefault" = some Builtin.«dict.setdefault» := entryFor_of_tree (by kernel_rfl)
theorem k65q (w : World) : ∃ oc od cd sl, (hd.heap_39 w.params).lookup 65 = some ⟨oc, od, .cls cd, sl⟩ ∧ cd.qualname = "FreezableDefaultDict" ∧ oc = .type "type" := ⟨_, _, _, _, rfl, rfl, rfl⟩
theorem dm_kind : builtinKind "collections.defaultdict.__missing__" = some .method := by decide +kernel
theorem dm_args (a b : Value) : (match Manifest.signature? "collections.defaultdict.__missing__" with | some sig => Bind.checkArgs "collections.defaultdict.__missing__" { sig with full := "FreezableDefaultDict.__missing__" } ⟨[a, b], []⟩ | none => pure ()) = pure () := by kernel_rfl
section
variable {prog : Program} {w : World} {A : Around} {R : Result → Shared → Prop} {h : Heap} {g : Array GenState} {d : Drawn} {tk : Nat} {os : OsState}
/-- the bound __missing__ of the book is called: the factory is called, then setdefault -/
theorem miss_call {T b dx lam : Addr} {es : List DictEntry} {n : Nat} {x : Str} {t : Tok} {of : Obj} {fd : FuncData} (X : (hd.heap_39 w.params).In h) (hT : h.get? T = some (missObj b)) (hb : h.get? b = some (bookO dx es n lam)) (hl : h.get? lam = some of) (hfd : of.data = .func fd)
    (hq : codeAny (model prog w) A.in1 (.call (.ref lam) ⟨[], []⟩) (fun r s' => match r with
      | .ok (.ret v) => codeAny (model prog w) A (.builtin "dict.setdefault" ⟨[.ref b, .str x t, v], []⟩) R s'
      | .ok _ => False | .error e => R (.error e) s') ⟨h, g, d, tk, os⟩) :
    codeAny (model prog w) A (.call (.ref T) ⟨[.str x t], []⟩) R ⟨h, g, d, tk, os⟩ := by
  have L0 : Looks (model prog w) h (typeOf (.ref b)) (.ref 65) := (Looks.ld hb).andThen .now
  refine codeAny_of_tree ?_
  show wpAny _ _ (callAny (.ref T) _) _ _ _
  refine nd_load hT ?_
  show wpAny _ _ (do checkBoundCall "collections.defaultdict.__missing__" ⟨[.ref b, .str x t], []⟩; again (.builtin "collections.defaultdict.__missing__" ⟨[.ref b, .str x t], []⟩)) _ _ _
  have LM : Looks (model prog w) h (isSubtype (.ref 65) (.type "module")) false := looks_mroIn X (by exact rfl)
  have cb : Looks (model prog w) h (checkBoundCall "collections.defaultdict.__missing__" ⟨[.ref b, .str x t], []⟩) () := by
    intro A Q E s k q
    have L0 := L0.keeps k
    have LM := LM.keeps k
    have hb := k _ _ hb
    unfold checkBoundCall
    obtain ⟨sig, hs⟩ := Option.isSome_iff_exists.mp (show (Manifest.signature? "collections.defaultdict.__missing__").isSome = true from by decide +kernel)
    have ca := dm_args (.ref b) (.str x t)
    rw [hs] at ca ⊢
    dsimp only at ca ⊢
    rw [dm_kind]
    obtain ⟨oc65, od65, cd65, sl65, hC65, hnm, hoc⟩ := k65q w
    have hC := k _ _ (X _ _ hC65)
    repeat lk
    rw [if_pos (by rw [hoc]; decide), hnm]
    have e1 : (toString (Str.ofString "FreezableDefaultDict").toString ++ toString "." ++ toString (Bind.lastOf "collections.defaultdict.__missing__")) = "FreezableDefaultDict.__missing__" := by decide +kernel
    rw [e1, ca]
    exact wpAny_pure q
  refine wpAny_bind (cb.at ?_)
  refine wpAny_pure ⟨Code.quiet_builtin _ (by decide +kernel), codeAny_builtin dm_entry ?_⟩
  rw [Around.under_plainId (by decide +kernel) _]
  unfold Builtin.«collections.defaultdict.__missing__» Builtin.Collections_defaultdict.factory? callOutOfASlot borrowsExactly
  repeat (first | simp only [hfd] | with_reducible refine borrowed_call ?_ | lk)
  refine codeAny_mono hq fun r s' z => ?_
  rcases r with e | (v | _ | _ | _) <;> first | exact z | exact z.elim | skip
  exact wpAny_pure ⟨Code.quiet_builtin _ (by decide +kernel), z⟩
end

section
variable {prog : Program} {w : World} {A : Around} {E : Value → Shared → Prop} {s : Shared}
theorem dictSetDefault_book {b dx lam : Addr} {es : List DictEntry} {n : Nat} {x : Str} {t : Tok} {v : Value} {Q : Value → Shared → Prop} (hb : s.heap.get? b = some (bookO dx es n lam)) (hall : (es.all fun e => isExactStrKey e.key) = true) (hn : findV es x = none) (hz : es.length ≤ 1000)
    (hq : ∀ h' hsh n', Heap.SameBut b s.heap h' → h'.get? b = some (bookO dx (es ++ [⟨hsh, .str x t, v⟩]) n' lam) → Q v { s with heap := h', toks := s.toks + 1 }) :
    wpAny (model prog w) A (dictSetDefault b (.str x t) v) Q E s := by
  unfold dictSetDefault
  refine wpAny_holding ?_
  refine wpAny_bind (wpAny_pyHash_str (wpAny_bind (KTD.kt_dictFind_strs (s := { s with toks := s.toks + 1 }) hb rfl (by simpa using hall) ?_)))
  have hi : (es.toArray.findIdx? fun e => e.key.isStr x) = none := by
    have : findBy (fun k v => v.isStr k) es.toArray x = none := by rw [← hn]; simp [findBy, findV]
    rw [findBy_of_findIdx?] at this
    cases q : es.toArray.findIdx? fun e => e.key.isStr x with
    | none => rfl
    | some i =>
      rw [q] at this
      obtain ⟨hlt, _, _⟩ := Array.findIdx?_eq_some_iff_getElem.mp q
      simp [Array.getElem?_eq_getElem hlt] at this
  rw [hi]
  refine wpAny_bind (wpAny_rule (wpAny_bind (wpAny_updateDictKeys (s := { s with toks := s.toks + 1 }) hb rfl (wpAny_pure (hq _ (hashStr w x) (n + 1) (Heap.SameBut.update ..) ?_)) (hz := by rw [List.size_toArray, sizeLine_eq]; omega))))
  rw [Heap.get?_update_self _ hb rfl]
  simp [Obj.mapDictKeys]
end
section
variable {prog : Program} {w : World} {A : Around} {R : Result → Shared → Prop} {h : Heap} {g : Array GenState} {d : Drawn} {tk : Nat} {os : OsState}
theorem set_default {b dx lam : Addr} {es : List DictEntry} {n : Nat} {x : Str} {t : Tok} {v : Value} (X : (hd.heap_39 w.params).In h) (hb : h.get? b = some (bookO dx es n lam)) (hall : (es.all fun e => isExactStrKey e.key) = true) (hb65 : 65 < b) (hn : findV es x = none) (hz : es.length ≤ 1000)
    (hq : ∀ h' hsh n', Heap.SameBut b h h' → h'.get? b = some (bookO dx (es ++ [⟨hsh, .str x t, v⟩]) n' lam) → R (.ok (.ret v)) ⟨h', g, d, tk + 1, os⟩) :
    codeAny (model prog w) A (.builtin "dict.setdefault" ⟨[.ref b, .str x t, v], []⟩) R ⟨h, g, d, tk, os⟩ := by
  have Y := mk_of (M := model prog w) X
  have L0 : Looks (model prog w) h (typeOf (.ref b)) (.ref 65) := (Looks.ld hb).andThen .now
  refine codeAny_builtin sd_entry ?_
  rw [Around.under_plainId (by decide +kernel) _]
  unfold Builtin.«dict.setdefault» Builtin.Dict.keyAndDefault Builtin.Dict.notOrdered
  have L1 := Y.ord
  have hns : (b == sysModules) = false := by rw [beq_eq_false_iff_ne]; intro q; rw [q] at hb65; exact absurd hb65 (by decide)
  repeat (first | simp only [hns, Bool.false_eq_true, if_false] | refine dictSetDefault_book hb hall hn hz ?_ | lk)
  intro h' hsh n' hs e
  exact wpAny_pure (hq h' hsh n' hs e)
end

section
variable {prog : Program} {w : World} {A : Around} {E : Value → Shared → Prop} {s : Shared} {env : Env}
/-- a bound built-in is called -/
theorem callWith_bound {pos : Pos} {T b : Addr} {e : Expr} {rest : List Expr} {Q : Value → Shared → Prop}
    (h : wpAny (model prog w) A (spliced (backTo pos (starEach (e :: rest) env))) (fun vs s₁ => s₁.heap.get? T = some (missObj b) ∧ wpAny (model prog w) A (call (.ref T) vs) Q E s₁) E s)
    (he : starEach (e :: rest) env = (false, eval e env) :: starEach rest env := by rfl)
    (hplain : (backTo pos (starEach rest env)).any (·.1) = false := by rfl) :
    wpAny (model prog w) A (callWith pos (.ref T) [] (backTo pos (starEach (e :: rest) env)) []) Q E s := by
  rw [he] at h ⊢
  have hp : (backTo pos ((false, eval e env) :: starEach rest env)).any (·.1) = false := by show (false || (backTo pos (starEach rest env)).any (·.1)) = false; rw [hplain]; rfl
  unfold callWith
  refine wpAny_bind (wpAny_holding (wpAny_mono (evalArgs_plain (Q := fun a s₁ => s₁.heap.get? T = some (missObj b) ∧ wpAny (model prog w) A (call (.ref T) a.pos a.kw) Q E s₁) h) (fun a s₁ h₁ => wpAny_bind (wpAny_standAt ?_)) fun _ _ x => x))
  obtain ⟨hT, h₁⟩ := h₁
  simp only [hp, List.any_nil, Bool.or_false]
  refine wpAny_bind (m := keeperOf (.ref T)) ?_
  unfold keeperOf
  refine wpAny_bind (wpAny_load hT ?_)
  dsimp only
  rw [if_pos (by decide), if_pos (by decide)]
  refine wpAny_pure ?_
  exact wpAny_bind (wpAny_mono h₁ (fun r s₂ hr => wpAny_bind (wpAny_holding (wpAny_point (wpAny_pure hr)))) fun _ _ x => x)
end

section
variable {prog : Program} {w : World} {A : Around} {E : Value → Shared → Prop} {h : Heap} {g : Array GenState} {d : Drawn} {t : Nat} {os : OsState}
theorem super_attr {so b dx lam : Addr} {es : List DictEntry} {n : Nat} {Q : Value → Shared → Prop} (X : (hd.heap_39 w.params).In h)
    (hso : h.get? so = some { cls := .type "super", dict := none, data := .fields #[.ref 65, .ref b, .ref 65], slots := #[] }) (hb : h.get? b = some (bookO dx es n lam)) (hb65 : 65 < b)
    (hq : ∀ T h', h.StaysIn h' → h.get? T = none → h'.get? T = some (missObj b) → Q (.ref T) ⟨h', g, d, t + 1, os⟩) :
    wpAny (model prog w) A (getAttr (.ref so) "__missing__" true) Q E ⟨h, g, d, t, os⟩ := by
  have hlk := PySem.F.ks_slot_super_ga.lookup
  have hT : ∀ t', (⟨h, g, d, t', os⟩ : Shared).TypeIs (.ref so) "super" := fun _ => ⟨_, hso, rfl⟩
  unfold getAttr getAttrBy
  refine wpAny_bind (wpAny_mkText (wpAny_holding (wpAny_bind (wpAny_typeOf (hT _) (wpAny_bind (wpAny_of_eq hlk ?_))))))
  show wpAny _ _ (getAttrByItsOwn (.ref so) (.str "__missing__" t) (.type "super") (.builtin "super.__getattribute__") true true) _ _ _
  unfold getAttrByItsOwn hookBefore callGetattribute boundAndCalled
  refine wpAny_bind (wpAny_of_eq (show (if onTheHeap (.type "super") then typeLookup (.type "super") "__getattr__" else pure none) = pure none from rfl) ?_)
  refine wpAny_bind (wpAny_attempt (wpAny_holding ?_))
  show wpAny _ _ (bindSpecial (.builtin "super.__getattribute__") (.ref so) >>= _) _ _ _
  refine wpAny_bind (wpAny_of_eq (PySem.F.ks_slot_super_ga.bind _) ?_)
  refine wpAny_mono (Q := fun v s' => (∃ T, v = .ref T) ∧ Q v s') (E := fun _ _ => False)
    (wpAny_call_entry PySem.F.ks_slot_super_ga (hT _) PySem.F.ks_entry_super_ga (super_ga X hso hb hb65 (fun T h' k nT hT' => ⟨_, rfl, ⟨T, rfl⟩, hq T h' k nT hT'⟩)) (PySem.F.ks_gaArgs_super _ _)) (fun v s' hv => ?_) fun _ _ z => z.elim
  obtain ⟨⟨T, rfl⟩, hv⟩ := hv
  exact wpAny_pure hv
end
/-- what a call hands on: its value alone -/
def GoR (R : Result → Shared → Prop) (r : Result) (s' : Shared) : Prop := match r with | .ok (.ret v) => R (.ok (.ret v)) s' | _ => False
set_option maxHeartbeats 4000000 in
theorem missing_spec (w : World) (mg mb : Str → Option Value) :
  ∀ (b dx lam : Addr) (es as : List DictEntry) (n na : Nat) (x : Str) (t : Tok) (A : Around) (h : Heap) (g : Array GenState) (d : Drawn) (tk : Nat) (os : OsState) (R : Result → Shared → Prop),
    Gd w mg mb h → Rm A 8 80 → h.get? b = some (bookO dx es n lam) → h.get? dx = some (dictOf as na) → 65 < b →
    ((getL "_frozen" as = some none ∧ ∀ T A' h' tk', Rm A' 7 77 → h.StaysIn h' → h'.get? T = some (missObj b) → codeAny (model PySem.Challenge.rw_in0106_01.row.prog w) A' (.call (.ref T) ⟨[.str x t], []⟩) (GoR R) ⟨h', g, d, tk', os⟩) ∨
     (∃ fz, getL "_frozen" as = some (some (.ref fz)) ∧ FnAt fz h ∧ ∀ A' h' tk', Rm A' 7 77 → h.StaysIn h' → codeAny (model PySem.Challenge.rw_in0106_01.row.prog w) A' (.call (.ref fz) ⟨[.str x t], []⟩) (GoR R) ⟨h', g, d, tk', os⟩)) →
      codeAny (model PySem.Challenge.rw_in0106_01.row.prog w) A (.call (.ref 55) ⟨[.ref b, .str x t], []⟩) R ⟨h, g, d, tk, os⟩ := by
  intro b dx lam es as n na x t A h g d tk os R G rm hb hdx hb65 hcs
  have X1 := G.kin
  revert X1
  k_fill
  intro X1
  have lim := G.lim
  obtain ⟨mrange, mlen, mtuple, mgetattr, msuper, mlist⟩ := mg_facts G
  k_dflt (refine' enterAt (dd := 7) (u := 77) (binds := [(Str.ofString "self", .ref b), (Str.ofString "key", .str x t)]) X1 lim rm ?k6 ?k7 ?k9 ?kB ?_ ?c2 ?c3 ?c4 ?c5; (case k6 => k_is); (case k7 => k_is); (case k9 => exact BindsTo.of_eq rfl); (case c5 => decide); (case kB => exact locs rfl); (case c2 => exact rfl); (case c3 => exact rfl); (case c4 => exact rfl))
  intro L h₁ tk₁ A' E' m F0 hm rmA
  dsimp only at F0 ⊢
  have F := Fm.of_fr F0
  have mself : m (Str.ofString "self") = some (.ref b) := hm ▸ rfl
  have mkey : m (Str.ofString "key") = some (.str x t) := hm ▸ rfl
  clear hm
  have G1 := G.keeps F0.keep
  refine ks_wpAt_execs_cons (ks_wpAt_Return_some ?_)
  refine at_Call ?_
  refine at_Call ?_
  refine PySem.wpAt_of_wpAny ?_
  walk_at "mB"
  refine at_callB ?_ rfl rfl
  refine at_items (PySem.wpAt_of_wpAny ?_) rfl
  walk_at "ms"
  refine at_items (PySem.wpAt_of_wpAny ?_) rfl
  walk_at "ms"
  refine at_items ?_ rfl
  refine at_Attribute ?_
  refine ks_wpAt_super_base (cc := 54) rfl rfl rfl rfl (X1.keeps F0.keep _ _ (by k_is)) rfl rfl rfl (X1.keeps F0.keep _ _ (by k_is)) rfl rfl rfl rfl ?_
  refine ks_loadName_global rfl rfl (loadGlobal_builtin G1.g msuper G1.b ((G1.bi _ (by decide +kernel)).trans bb_super) ⟨rfl, ?_⟩)
  refine wpAny_loadName_free rfl rfl rfl ⟨_, X1.keeps F0.keep _ _ (by k_is), rfl⟩ ?_
  refine wpAny_loadName_local rfl rfl F.ns mself ?_
  obtain ⟨oc65, od65, cd65, sl65, hC65, _, _, _, _⟩ := k65 w
  have hC := (G1.kin) _ _ hC65
  refine ks_wpAny_isType_cls hC rfl ⟨rfl, ?_⟩
  have sub65 : Looks (model PySem.Challenge.rw_in0106_01.row.prog w) h₁ (isSubtype (.ref 65) (.ref 65)) true := (mk_of (M := model PySem.Challenge.rw_in0106_01.row.prog w) G1.kin).self
  refine ks_wpAny_call_super hC rfl (F.keep _ _ hb) rfl (fun c e => (by cases e)) sub65 (fun h2 e2 k2 => ?_)
  have G2 : Gd w mg mb h2 := G1.keeps k2
  refine super_attr G2.kin e2 (k2 _ _ (F0.keep _ _ hb)) hb65 fun T h3 k3 nT eT => ?_
  refine at_nil ?_
  have F3 := (F.pure k2).new k3 nT eT
  have kT : h.StaysIn h3 := fun b o e => k3 _ _ (k2 _ _ (F0.keep b o e))
  have nL : h3.Ns L m := F3.ns
  refine getattr3 (as := as) (na := na) (G2.keeps k3).kin rmA.handled (kT _ _ hb) (kT _ _ hdx) ?_
  rcases hcs with ⟨hl, hc⟩ | ⟨fz, hl, hfz, hc⟩
  · refine .inl ⟨hl, fun h4 tk4 k4 => ?_⟩
    refine PySem.wpAt_of_wpAny ?_
    refine callWith_bound (T := T) (b := b) ?_ rfl rfl
    refine wpAny_items_cons (ldNs (nL.keeps k4) mkey ?_ rfl rfl rfl) rfl
    refine wpAny_items_nil ?_
    refine ⟨k4 _ _ eT, wpAny_call (codeAny_mono (hc T _ h4 _ rmA (fun b o e => k4 _ _ (kT b o e)) (k4 _ _ eT)) fun r s' z => ?_)⟩
    rcases r with e | (v | _ | _ | _) <;> first | exact z.elim | exact z
  · refine .inr ⟨_, hl, rfl, ?_⟩
    refine PySem.wpAt_of_wpAny ?_
    obtain ⟨oc, od, fd, sl, hf⟩ := hfz
    refine callWith_F (q := fz) ⟨oc, od, fd, sl, kT _ _ hf⟩ ?_ rfl rfl
    refine wpAny_items_cons (ldNs nL mkey ?_ rfl rfl rfl) rfl
    refine wpAny_items_nil ?_
    refine ⟨⟨oc, od, fd, sl, kT _ _ hf⟩, wpAny_call (codeAny_mono (hc _ h3 _ rmA kT) fun r s' z => ?_)⟩
    rcases r with e | (v | _ | _ | _) <;> first | exact z.elim | exact z

theorem sa65 (w : World) : findIn (hd.heap_39 w.params) (.ref 65) "__setattr__" = some (some (.builtin "object.__setattr__")) := by exact rfl
theorem fzn65 (w : World) : findIn (hd.heap_39 w.params) (.ref 65) "_frozen" = some none := by exact rfl
theorem fr65 (w : World) : findIn (hd.heap_39 w.params) (.ref 65) "freeze" = some (some (.ref 62)) := by exact rfl
theorem vl65 (w : World) : findIn (hd.heap_39 w.params) (.ref 65) "values" = some (some (.builtin "dict.values")) := by exact rfl
theorem dfi65 (w : World) : findIn (hd.heap_39 w.params) (.ref 65) "default_factory" = some (some (.builtin "collections.defaultdict.default_factory")) := by exact rfl
theorem df65 (w : World) (as : List DictEntry) (na : Nat) : findObj (hd.heap_39 w.params) 65 (some (dictOf as na)) "default_factory" = some (.bind (.builtin "member_descriptor.__get__") (.builtin "collections.defaultdict.default_factory")) := by exact rfl
theorem refuse65 (self : Value) : refuseLoop self "__setattr__" [.ref 65, .type "collections.defaultdict", .type "dict", .type "object"] = pure () := by rw [refuseLoop_ref]; kernel_rfl
theorem can65 : Manifest.canonical "collections.defaultdict.__getattribute__" = "object.__getattribute__" := by decide +kernel
theorem df_entry : entryFor table "collections.defaultdict.default_factory" = some Builtin.«collections.defaultdict.default_factory» := entryFor_of_tree (by kernel_rfl)
theorem ty_val : typeOf (.builtin "dict.values") = pure (.type "method_descriptor") := by show builtinType _ = _; rw [builtinType_eq_fast]; kernel_rfl
theorem ty_dfac : typeOf (.builtin "collections.defaultdict.default_factory") = pure (.type "member_descriptor") := by show builtinType _ = _; rw [builtinType_eq_fast]; kernel_rfl
section
variable {prog : Program} {w : World} {A : Around} {E : Value → Shared → Prop} {s : Shared} {b dx lam : Addr} {es as : List DictEntry} {n na : Nat} {pl : Sem Bool}
/-- a method of the book, named -/
theorem book_method {name : Str} {f : Value} {T : String} {Q : Value × List Value → Shared → Prop} (X : (hd.heap_39 w.params).In s.heap) (hb : s.heap.get? b = some (bookO dx es n lam)) (hdx : s.heap.get? dx = some (dictOf as na))
    (hf : findIn (hd.heap_39 w.params) (.ref 65) name = some (some f)) (ht : Looks (model prog w) s.heap (typeOf f) (.type T)) (hT : T = "function" ∨ T = "method_descriptor") (hl : getL name as = some none) (h : Q (f, [.ref b]) s) :
    wpAny (model prog w) A (getMethod (.ref b) name pl) Q E s := by
  have I : InstAt s.heap b (bookO dx es n lam) 65 (some (dictOf as na)) := ⟨hb, rfl, rfl, hdx⟩
  have hs : lookIn name (dictOf as na) = some none := by rw [lookIn_dict, hl]
  unfold getMethod specialOf
  refine wpAny_bind (wpAny_bind (I.type.here ((looks_findIn X (ga65 w)).here ?_)))
  dsimp only
  rw [can65, if_neg (by decide)]
  refine wpAny_bind (wpAny_bind (I.type.here ((looks_findIn X (gh65 w)).here ?_)))
  refine wpAny_bind (wpAny_bind (I.type.here ((looks_findIn X hf).here (wpAny_bind (ht.here ?_)))))
  rw [if_neg (by rcases hT with rfl | rfl <;> decide +kernel)]
  refine wpAny_bind (wpAny_loadPart I.at_ ?_)
  refine wpAny_bind (wpAny_bind (wpAny_loadPart hdx ?_))
  rw [nsLook_of hs]
  refine wpAny_pure ?_
  exact wpAny_bind (wpAny_rule (wpAny_pure h))
/-- a name of the book's own dict stored -/
theorem book_set {name : Str} {L : Addr} {I : Heap} {m : Str → Option Value} {pre post : Led} {v : Value} {Q : Unit → Shared → Prop} (X : (hd.heap_39 w.params).In s.heap) (F : Fm I L s.heap m (pre ++ (dx, dictOf as na) :: post)) (hb : s.heap.get? b = some (bookO dx es n lam))
    (ha : findIn (hd.heap_39 w.params) (.ref 65) name = some none) (hk : StrKs as) (hz : as.length ≤ 100)
    (h : ∀ h' as' na' tk', StrKs as' → (∀ y, getL y as' = if y = name then some (some v) else getL y as) → Fm I L h' m (pre ++ (dx, dictOf as' na') :: post) → Q () { s with heap := h', toks := tk' }) :
    wpAny (model prog w) A (setAttr (.ref b) name v) Q E s := by
  have hdx : s.heap.get? dx = some (dictOf as na) := F.get (by simp)
  obtain ⟨hh, g, d, t, os⟩ := s
  dsimp only at X F hb hdx h
  have Ii : InstAt hh b (bookO dx es n lam) 65 (some (dictOf as na)) := ⟨hb, rfl, rfl, hdx⟩
  have Y := mk_of (M := model prog w) X
  have obj : Looks (model prog w) hh (isSubtype (.ref 65) (.type "object")) true := looks_mroIn X (by exact rfl)
  refine set_plain X Ii (sa65 w) ?_
  have SF := PySem.F.store_object
  refine codeAny_call_builtin SF.slot.plain SF.entry (@check_slot (model prog w) _ _ ⟨hh, g, d, t + 1, os⟩ "object.__setattr__" "object" "__setattr__" (.ref b) [.str name t, v] [] _ SF.kind SF.split (Ii.type.andThen obj) (SF.args (.ref b) (.str name t) v) ?_)
  rw [osa_eq, refuse_eq]
  refine wpAny_bind (wpAny_bind (Ii.type.at (wpAny_bind (Y.mro.at ?_))))
  rw [refuse65]
  refine wpAny_pure (wpAny_bind (Ii.type.at (wpAny_bind ((looks_findIn X ha).at (wpAny_bind ((Looks.now (a := none)).at ?_))))))
  obtain ⟨cd, hc, hd'⟩ := any_some (show hasDictIn (hd.heap_39 w.params) 65 = true from by exact rfl)
  have Lc := looks_clsIn (M := model prog w) X hc
  refine wpAny_bind (wpAny_pure (wpAny_bind (wpAny_bind (wpAny_loadPart hb (wpAny_bind (Lc.at ?_))))))
  rw [hd']
  refine wpAny_pure (a := some dx) (wpAny_bind (wpAny_pure (wpAny_bind ?_)))
  unfold nsSet
  refine wpAny_bind (wpAny_bind (wpAny_askSetting (wpAny_pure (wpAny_bind (wpAny_mkText (wpAny_bind (wpAny_loadPart hdx ?_)))))))
  dsimp only
  have c : (!as.toArray.any (·.key.isStr name) && as.toArray.any (·.refKey)) = false := by
    have : as.toArray.any (·.refKey) = false := by
      rw [← Array.any_toList, List.any_eq_false]
      intro e he
      obtain ⟨a, t, q⟩ := hk e (by simpa using he)
      simp [DictEntry.refKey, q]
    rw [this, Bool.and_false]
  rw [aRefKeyMayBeTheName_at, c]
  refine wpAny_updatePart hdx ?_
  have e1 : (putL name (PyData.keyHash w.params name) (.str name (t + 1)) v as).length ≤ as.length + 1 := putL_len _
  have hD' := Heap.get?_update_self (f := Obj.putName name (PyData.keyHash w.params name) (.str name (t + 1)) v) hdx (by rw [putName_dict]; rfl)
  refine wpAny_bind (wpAny_lookBehind hD' (by rw [putName_dict]; exact pastItsLine_dict (by rw [List.size_toArray, sizeLine_eq]; omega)) ?_)
  rw [putName_dict] at hD'
  exact wpAny_pure (h _ _ _ _ (putL_strKs hk) (fun y => getL_putL hk) (F.upd (Heap.SameBut.update ..) hD'))
end

theorem mem_kind : builtinKind "member_descriptor.__get__" = some .slot := by decide +kernel
theorem mem_split : splitId "member_descriptor.__get__" = some ("member_descriptor", "__get__") := by decide +kernel
theorem mem_inst : isInstance (.builtin "collections.defaultdict.default_factory") (.type "member_descriptor") = pure true := by kernel_rfl
theorem mem_args (a b c : Value) : argsOk "member_descriptor.__get__" ⟨[a, b, c], []⟩ := by unfold argsOk; kernel_rfl
theorem dfac_split : Builtin.Getset_descriptor.descrOwnerAndName "collections.defaultdict.default_factory" = ("collections.defaultdict", "default_factory") := by decide +kernel
section
variable {prog : Program} {w : World} {A : Around} {E : Value → Shared → Prop} {h : Heap} {g : Array GenState} {d : Drawn} {t : Nat} {os : OsState} {b dx lam : Addr} {es as : List DictEntry} {n na : Nat}
/-- the factory read off the book -/
theorem book_factory {ex : Bool} {Q : Value → Shared → Prop} (X : (hd.heap_39 w.params).In h) (hh : A.handled = none) (hb : h.get? b = some (bookO dx es n lam)) (hdx : h.get? dx = some (dictOf as na)) (hq : Q (.ref lam) ⟨h, g, d, t + 1, os⟩) :
    wpAny (model prog w) A (getAttr (.ref b) "default_factory" ex) Q E ⟨h, g, d, t, os⟩ := by
  have t1 : Looks (model prog w) h (typeOf (.ref b)) (.ref 65) := (Looks.ld hb).andThen .now
  have iI : Looks (model prog w) h (isInstance (.ref b) (.type "collections.defaultdict")) true := t1.andThen (mk_of (M := model prog w) X).dd
  unfold getAttr
  refine wpAny_bind (wpAny_mkText ?_)
  refine book_by X hh (by decide) hb hdx (df65 w as na) ?_
  dsimp only
  refine codeAny_call_builtin_at (Code.quiet_builtin _ (by decide +kernel)) KF.entry_mem ?_
  refine @check_slot (model prog w) _ _ _ "member_descriptor.__get__" "member_descriptor" "__get__" (.builtin "collections.defaultdict.default_factory") [.ref b, .ref 65] [] _ mem_kind mem_split (Looks.of_pure mem_inst) (mem_args _ _ _) ?_
  unfold Builtin.«member_descriptor.__get__» Builtin.Getset_descriptor.descrGet
  refine wpAny_bind (wpAny_of_eq (a := (.builtin "collections.defaultdict.default_factory", some (.ref b), some (.ref 65))) (by first | rfl | kernel_rfl) ?_)
  dsimp only
  unfold Builtin.Getset_descriptor.descrGetter Builtin.Getset_descriptor.descrCheckInstance Builtin.Getset_descriptor.descrNameAndClass
  dsimp only
  rw [dfac_split]
  repeat (first | simp only [Bool.not_true, Bool.false_eq_true, if_false] | lk)
  refine ⟨Code.quiet_builtin _ (by decide +kernel), codeAny_builtin df_entry ?_⟩
  unfold Builtin.«collections.defaultdict.default_factory» Builtin.Collections_defaultdict.factory?
  repeat lk
  exact ⟨rfl, hq⟩
/-- the factory, named to be called -/
theorem book_factory_m {pl : Sem Bool} {Q : Value × List Value → Shared → Prop} (X : (hd.heap_39 w.params).In h) (hh : A.handled = none) (hb : h.get? b = some (bookO dx es n lam)) (hdx : h.get? dx = some (dictOf as na)) (hq : Q (.ref lam, []) ⟨h, g, d, t + 1, os⟩) :
    wpAny (model prog w) A (getMethod (.ref b) "default_factory" pl) Q E ⟨h, g, d, t, os⟩ := by
  have I : InstAt h b (bookO dx es n lam) 65 (some (dictOf as na)) := ⟨hb, rfl, rfl, hdx⟩
  unfold getMethod specialOf
  refine wpAny_bind (wpAny_bind (I.type.at ((looks_findIn X (ga65 w)).at ?_)))
  dsimp only
  rw [can65, if_neg (by decide)]
  refine wpAny_bind (wpAny_bind (I.type.at ((looks_findIn X (gh65 w)).at ?_)))
  refine wpAny_bind (wpAny_bind (I.type.at ((looks_findIn X (dfi65 w)).at (wpAny_bind ((Looks.of_pure ty_dfac).at ?_)))))
  rw [if_pos (by decide +kernel)]
  exact wpAny_bind (book_factory X hh hb hdx (wpAny_pure hq))
end
/-- the frame of a lambda's call -/
theorem lam_enter {prog : Program} {w : World} {A : Around} {R : Result → Shared → Prop} {name qual : Str} {params : Arguments} {body : Expr} {scope : Scope} {cl : List (Str × Addr)} {pm ctv : Value} {c' f : Addr} {args : Args} {binds : List (Str × Value)} {dd u : Nat} {s : Shared}
    (hlim : s.heap.NoLimit) (rm : Rm A (dd + 1) (u + 3)) (ho : s.heap.get? f = some (kla_obj name qual params body scope cl pm c' ctv)) (hcd : s.heap.CodeRec (.ref c') qual)
    (hbind : bindArgs (kla_fn name qual params body scope cl pm (.ref c') ctv) args = pure binds) (hloc : ∀ y ∈ binds, scope.names.lookup y.1 = some .local)
    (h : ∀ L h₁ tk₁ A' E' m, Fr s.heap L h₁ m → m = (fun y => binds.reverse.lookup y) → Rm A' dd u →
      wpAny (model prog w) A' (eval body (envX qual scope L f (.ref c') cl)) (fun v s' => R (.ok (.ret v)) s') E' { s with heap := h₁, toks := tk₁ })
    (hco : scope.isCoroutine = false := by rfl) (hgen : scope.isGenerator = false := by rfl) (hk : scope.kind = .function := by rfl)
    (hcell : ∀ x ∈ scope.names, x.2 ≠ .cell := by decide) : codeAny (model prog w) A (.call (.ref f) args) R s := by
  refine kla_callFunE rm.room ho rfl hco hgen rfl hcd ?_
  rw [hbind]
  refine wpAny_pure (wpAny_newFunctionEnv hcell hloc (fun h₁ hns hsb => ⟨hlim.fresh _ hsb, ?_⟩) hk)
  have hk₁ : ∀ b o, s.heap.get? b = some o → h₁.get? b = some o := fun b o e => hsb.extBut b o (Nat.ne_of_lt (Heap.lt_size e)) (Heap.get?_push_of_some _ e)
  exact kla_codeExpr (h _ h₁ _ _ _ _ ⟨hns, hk₁, Nat.le_refl _⟩ rfl (rm.deeper _))
section
variable {prog : Program} {w : World} {A : Around} {E : Value → Shared → Prop} {s : Shared} {I : Heap} {m mg mb : Str → Option Value} {pre post : Led} {L L' P c : Addr} {env : Env}
/-- a lambda made: its code stands in the table of the code that makes it -/
theorem mkLam {params : Arguments} {body : Expr} {scope : Scope} {pos : Pos} {clos : List (Str × Addr)} {Q : Value → Shared → Prop} (G : Gd w mg mb I) (F : Fm I L s.heap m (pre ++ (P, tabObj #[]) :: post)) (C : CodeHd I c P) (hcode : env.code = .ref c) (hcl : closureFor scope env = pure clos) (hge0 : env.globals = mainGlobals)
    (hdef : defaultsOf params env = ([], []))
    (h : ∀ f c' oc vs t ctv pm ps h' tk, Fm I L h' m ((f, kla_obj "<lambda>" (env.qual ++ "<lambda>") params body scope clos pm c' ctv) :: (c', oc) :: (pre ++ (P, tabObj ps) :: post)) → oc.data = .fields vs → vs[1]? = some (.str (env.qual ++ "<lambda>") t) → s.heap.objs.size ≤ c' → s.heap.objs.size ≤ f → Q (.ref f) { s with heap := h', toks := tk }) :
    wpAny (model prog w) A (eval (.Lambda params body scope pos) env) Q E s := by
  refine kla_eval hdef ?_
  have hP := F.get (a := P) (o := tabObj #[]) (by simp)
  have hPI : I.get? P = none := (F.mus (P, tabObj #[]) (by simp)).2.2
  have hPL : P ≠ L := (F.mus (P, tabObj #[]) (by simp)).2.1
  have hgs := G.g.keeps F.keep
  obtain ⟨bm, ob, b1, b2, b3, b4, b5, b6⟩ := G.bmain
  have hgP : mainGlobals ≠ P := fun q => by
    obtain ⟨o, es, ep, e, hd, _⟩ := hgs
    rw [q, hP] at e; cases e; cases hd
  have hbP : bm ≠ P := fun q => by rw [q, hPI] at b3; cases b3
  have hbG : bm ≠ mainGlobals := fun q => by
    obtain ⟨o, es, ep, e, hd, _⟩ := G.g
    rw [q, e] at b3; cases b3; rw [hd] at b6; cases b6
  refine kla_makeFunction (mg := mg) hcl hge0 hgs hcode (C.keeps F.keep) hP (by exact True.intro) rfl hgP ⟨bm, ob, b1, b2, hbG, hbP, F.keep _ _ b3, b4, b5, b6⟩ fun c' ctv h' tk hx hge hlt hrec htb => ?_
  have F' : Fm I L h' m (pre ++ (P, tabObj (#[] ++ #[rawInt pos.line, rawInt pos.col, .ref c'])) :: post) := by
    have nd := F.nd
    rw [List.map_append, List.map_cons] at nd
    have nd2 := List.nodup_append.mp nd
    refine ⟨F.ns.extBut hx (Ne.symm hPL), fun b o e => hx b o (fun q => by rw [q, hPI] at e; cases e) (F.keep b o e), F.out, fun p hp => ?_, by rw [List.map_append, List.map_cons]; exact nd⟩
    rcases List.mem_append.mp hp with hp | hp
    · have k := F.mus p (List.mem_append_left _ hp)
      exact ⟨hx _ _ (fun e => nd2.2.2 p.1 (List.mem_map_of_mem hp) P (by simp) e) k.1, k.2⟩
    · rcases List.mem_cons.mp hp with rfl | hp
      · exact ⟨htb, hPL, hPI⟩
      · have k := F.mus p (List.mem_append_right _ (.tail _ hp))
        exact ⟨hx _ _ (fun e => (List.nodup_cons.mp nd2.2.1).1 (List.mem_map.mpr ⟨p, hp, e⟩)) k.1, k.2⟩
  obtain ⟨c₂, oc, vs, t, e2, hoc, hd, hv⟩ := hrec
  cases e2
  have lt : ∀ p ∈ pre ++ (P, tabObj #[]) :: post, p.1 < c' := fun p hp => Nat.lt_of_lt_of_le (Heap.lt_size (F.mus p hp).1) hge
  have F2 := F'.add hoc (Nat.ne_of_gt (Nat.lt_of_lt_of_le F.ns.lt hge)) (isNone_of fun o e => absurd (Heap.lt_size (F.keep _ _ e)) (Nat.not_lt.mpr hge)) (fun hm => by
    obtain ⟨p, hp, e⟩ := List.mem_map.mp hm
    rcases List.mem_append.mp hp with hp | hp
    · exact absurd (lt p (List.mem_append_left _ hp)) (by rw [e]; exact Nat.lt_irrefl _)
    · rcases List.mem_cons.mp hp with rfl | hp
      · exact absurd (lt (P, tabObj #[]) (by simp)) (by rw [show P = c' from e]; exact Nat.lt_irrefl _)
      · exact absurd (lt p (List.mem_append_right _ (.tail _ hp))) (by rw [e]; exact Nat.lt_irrefl _))
  exact h h'.objs.size c' oc vs t ctv _ _ _ tk (F2.push _ rfl) hd hv hge (Nat.le_of_lt (Nat.lt_of_le_of_lt hge hlt))
end

/-- a call of f makes a new list that holds the count of the earlier ones, and counts itself in ma -/
def Makes (w : World) (I : Heap) (f : Addr) (vs : List Value) (ma : Addr) (dd u : Nat) : Prop :=
  ∀ (ys : List Value) (n : Nat) (A : Around) (h : Heap) (g : Array GenState) (d : Drawn) (tk : Nat) (os : OsState) (R : Result → Shared → Prop),
    I.StaysIn h → Rm A dd u → h.get? ma = some (listO ys n) → ys.length ≤ 1000 →
    (∀ T t n' h' tk', (∀ b o, b ≠ ma → h.get? b = some o → h'.get? b = some o) → h'.get? ma = some (listO (ys ++ [.int (ys.length : Int) t]) n') → h.get? T = none → h'.get? T = some (listO [.int (ys.length : Int) t] 0) → R (.ok (.ret (.ref T))) ⟨h', g, d, tk', os⟩) →
    codeAny (model PySem.Challenge.rw_in0106_01.row.prog w) A (.call (.ref f) ⟨vs, []⟩) R ⟨h, g, d, tk, os⟩
theorem Makes.keeps {w : World} {I I' : Heap} {f ma : Addr} {vs : List Value} {dd u : Nat} (M : Makes w I f vs ma dd u) (k : I.StaysIn I') : Makes w I' f vs ma dd u :=
  fun ys n A h g d tk os R hI rm hm hl hq => M ys n A h g d tk os R (fun b o e => hI b o (k b o e)) rm hm hl hq

set_option maxHeartbeats 4000000 in
theorem freeze_spec (w : World) (mg mb : Str → Option Value) :
  ∀ (b dx lam : Addr) (es as : List DictEntry) (n na : Nat) (A : Around) (I h : Heap) (g : Array GenState) (d : Drawn) (tk : Nat) (os : OsState) (R : Result → Shared → Prop),
    Gd w mg mb I → Rm A 5 60 → I.StaysIn h → h.get? b = some (bookO dx es n lam) → h.get? dx = some (dictOf as na) → h.get? 57 = some (tabObj #[]) → I.get? dx = none → I.get? 57 = none → CodeHd I 61 57 → StrKs as → as.length ≤ 100 → dx ≠ 57 →
    (∀ fz as' na' ps h' tk', (∀ x o, x ≠ 57 → x ≠ dx → h.get? x = some o → h'.get? x = some o) → h'.get? 57 = some (tabObj ps) → h'.get? dx = some (dictOf as' na') → StrKs as' → (∀ y, getL y as' = if y = Str.ofString "_frozen" then some (some (.ref fz)) else getL y as) →
      h.get? fz = none → FnAt fz h' →
      (∀ I2 ma es2 n2 as2 na2, (∀ x o, h.get? x = none → h'.get? x = some o → I2.get? x = some o) → Gd w mg mb I2 → I2.get? b = some (bookO dx es2 n2 lam) → I2.get? dx = some (dictOf as2 na2) → FnAt lam I2 → Makes w I2 lam [] ma 4 50 → ∀ x t, Makes w I2 fz [.str x t] ma 6 60) →
      R (.ok (.ret .none)) ⟨h', g, d, tk', os⟩) →
      codeAny (model PySem.Challenge.rw_in0106_01.row.prog w) A (.call (.ref 62) ⟨[.ref b], []⟩) R ⟨h, g, d, tk, os⟩ := by
  intro b dx lam es as n na A I h g d tk os R G rm hI hb hdx h57 Idx I57 C hsk hsz ne57 hret
  have kI0 : I.StaysIn (hideAll h [57, dx]) := fun x o e => hideAll_get _ (hI x o e) fun hm => by
    rcases List.mem_cons.mp hm with q | hm
    · rw [q, I57] at e; cases e
    · rw [List.mem_singleton.mp hm, Idx] at e; cases e
  have G0 := G.keeps kI0
  have X1 := (G.keeps hI).kin
  revert X1
  k_fill
  intro X1
  have lim := (G.keeps hI).lim
  k_dflt (refine' enterC (dd := 4) (u := 57) (binds := [(Str.ofString "self", .ref b)]) X1 lim rm ?k6 ?k7 ?k9 ?kB ?_ ?c2 ?c3 ?c4; (case k6 => k_is); (case k7 => k_is); (case k9 => exact rfl); (case kB => exact rfl); (case c2 => exact rfl); (case c3 => exact rfl); (case c4 => exact rfl))
  intro L h₁ tk₁ A' E' m cm F0 hm hcm hcell rmA hfr
  obtain ⟨oc, hoc, hdc, hLc⟩ := hcell (Str.ofString "self") (L + 1) (by exact rfl)
  have hb57 : b ≠ 57 := fun q => by rw [q, h57] at hb; cases hb
  have hbdx : b ≠ dx := fun q => by rw [q, hdx] at hb; cases hb
  have ltL : ∀ x o, h.get? x = some o → x ≠ L := fun x o e => Nat.ne_of_lt (Nat.lt_of_lt_of_le (Heap.lt_size e) F0.above)
  have ltL1 : ∀ x o, h.get? x = some o → x ≠ L + 1 := fun x o e q => by rw [q, hfr _ hLc] at e; cases e
  have F : Fm (hideAll h [57, dx]) L h₁ m [(57, tabObj #[]), (dx, dictOf as na), (L + 1, oc)] :=
    ((((Fm.of_fr F0).weak (fun b o e => of_hideAll _ e)).add hoc (Nat.ne_of_gt hLc) (isNone_of fun o e => by have := of_hideAll _ e; rw [hfr _ hLc] at this; cases this) (by simp)).add (F0.keep _ _ hdx) (ltL _ _ hdx) (hideAll_none _ (by simp)) (by simpa using ltL1 _ _ hdx)).add (F0.keep _ _ h57) (ltL _ _ h57) (hideAll_none _ (by simp)) (fun hm => by rcases List.mem_cons.mp hm with q | hm; exact ne57 q.symm; exact ltL1 _ _ h57 (List.mem_singleton.mp hm))
  have hdc : oc.data = .cell (some (.ref b)) := hdc.trans (by rw [hcm]; rfl)
  clear hm
  have G1 := G0.keeps F.keep
  walk_at "m"
  refine plainObj_wpAny_Assign_Attribute ?_
  refine mkLam (pre := []) (post := [(dx, dictOf as na), (L + 1, oc)]) (clos := [(Str.ofString "self", L + 1)]) G0 F (C.keeps kI0) rfl rfl rfl rfl fun f c' oc' vs tq ctv pm ps h2 tk2 F2 hcd' hcq hge hge2 => ?_
  refine ldCell (c := L + 1) rfl (F2.get (a := L + 1) (o := oc) (by simp)) hdc ?_ rfl rfl rfl
  have G2 := G0.keeps F2.keep
  have hbI := hideAll_get [57, dx] hb (by simp [hb57, hbdx])
  refine book_set (pre := [_, _, (57, tabObj ps)]) (post := [(L + 1, oc)]) G2.kin F2 (F2.keep _ _ hbI) (fzn65 w) hsk hsz fun h3 as' na' tk3 hsk' hget F3 => ?_
  walk_at "ms"
  have F3c := F3.get (a := L + 1) (o := oc) (by simp)
  have F3f := F3.get (.head _)
  have F3q := F3.get (.tail _ (.head _))
  have nf : ∀ x, h₁.objs.size ≤ x → h.get? x = none := fun x hx => isNone_of fun o e => absurd (Heap.lt_size (F0.keep _ _ e)) (Nat.not_lt.mpr hx)
  refine hret f as' na' ps h3 tk3 (fun x o x1 x2 e => F3.keep x o (hideAll_get _ e (by simp [x1, x2]))) (F3.get (by simp)) (F3.get (by simp)) hsk' hget (nf _ hge2) ⟨_, _, _, _, F3f⟩ ?_
  intro I2 ma es2 n2 as2 na2 hnew G2 hb2 hdx2 ⟨lc, ld, lf, ls, hlam⟩ hmk x t
  intro ys n A2 hh gg dd tk os' R2 hI2 rm2 hma hlen hq
  have Gh := G2.keeps hI2
  refine lam_enter (dd := 5) (u := 57) (binds := [(Str.ofString "key", .str x t)]) Gh.lim rm2 (hI2 _ _ (hnew _ _ (nf _ hge2) F3f)) ⟨c', oc', vs, tq, rfl, hI2 _ _ (hnew _ _ (nf _ hge) F3q), hcd', hcq⟩ rfl (locs rfl) fun L2 h4 tk4 A4 E4 m4 F4 hm4 rm4 => ?_
  have Gh4 := Gh.keeps F4.keep
  walk_at "mMeth"
  refine ldFree (c := L + 1) (o := oc) rfl (F4.keep _ _ (hI2 _ _ (hnew _ _ (hfr _ hLc) F3c))) hdc ?_ rfl rfl rfl rfl
  refine book_factory_m Gh4.kin rm4.handled (F4.keep _ _ (hI2 _ _ hb2)) (F4.keep _ _ (hI2 _ _ hdx2)) ?_
  dsimp only
  refine callWith_F0 ⟨lc, ld, lf, ls, F4.keep _ _ (hI2 _ _ hlam)⟩ ?_
  show wpAny _ _ (call (.ref lam) []) _ _ _
  refine wpAny_call (hmk ys n _ h4 _ _ _ _ _ (fun x o e => F4.keep _ _ (hI2 _ _ e)) rm4.le (F4.keep _ _ hma) hlen fun T t2 n' h5 tk5 k5 e5 n5 f5 => ?_)
  exact hq T t2 n' h5 tk5 (fun b o hb e => k5 b o hb (F4.keep _ _ e)) e5 (isNone_of fun o e => by have := F4.keep _ _ e; rw [n5] at this; cases this) f5

section
variable {w : World} {mg mb : Str → Option Value} {A : Around} {R : Result → Shared → Prop} {h I : Heap} {g : Array GenState} {d : Drawn} {tk : Nat} {os : OsState} {b dx lam fz ma : Addr} {es as : List DictEntry} {n na nm : Nat} {x : Str} {t : Tok} {ys : List Value}
/-- a look-up in the frozen book -/
theorem look_frozen (G : Gd w mg mb h) (rm : Rm A 10 100) (hb : h.get? b = some (bookO dx es n lam)) (hdx : h.get? dx = some (dictOf as na)) (hb65 : 65 < b) (hall : (es.all fun e => isExactStrKey e.key) = true)
    (hf : getL "_frozen" as = some (some (.ref fz))) (hfz : FnAt fz h) (hI : I.StaysIn h) (hm : ∀ x t, Makes w I fz [.str x t] ma 6 60) (hma : h.get? ma = some (listO ys nm)) (hl : ys.length ≤ 1000)
    (h1 : ∀ v, findV es x = some v → R (.ok (.ret v)) ⟨h, g, d, tk + 1, os⟩)
    (h2 : findV es x = none → ∀ T t n' h' tk', (∀ b o, b ≠ ma → h.get? b = some o → h'.get? b = some o) → h'.get? ma = some (listO (ys ++ [.int (ys.length : Int) t]) n') → h.get? T = none → h'.get? T = some (listO [.int (ys.length : Int) t] 0) → R (.ok (.ret (.ref T))) ⟨h', g, d, tk', os⟩) :
    codeAny (model PySem.Challenge.rw_in0106_01.row.prog w) A (.call (.builtin "dict.__getitem__") ⟨[.ref b, .str x t], []⟩) R ⟨h, g, d, tk, os⟩ := by
  refine get65 G.kin hb hall hb65 h1 fun hn => ?_
  refine missing_spec w mg mb b dx lam es as n na x t _ h g d _ os _ G (rm.le.in1 (u := 90)) hb hdx hb65 (.inr ⟨fz, hf, hfz, fun A' h' tk' rm' k => ?_⟩)
  refine hm x t ys nm A' h' g d tk' os _ (fun b o e => k _ _ (hI _ _ e)) rm'.le (k _ _ hma) hl fun T t n' h'' tk'' k2 e2 n2 f2 => ?_
  exact h2 hn T t n' h'' tk'' (fun b o hb e => k2 b o hb (k _ _ e)) e2 (isNone_of fun o e => by have := k _ _ e; rw [n2] at this; cases this) f2
/-- a look-up in the book that is not frozen -/
theorem look_filling (G0 : Gd w mg mb I) (Ima : I.get? ma = none) (rm : Rm A 10 100) (hb : h.get? b = some (bookO dx es n lam)) (hdx : h.get? dx = some (dictOf as na)) (hb65 : 65 < b) (hall : (es.all fun e => isExactStrKey e.key) = true)
    (hf : getL "_frozen" as = some none) (hlam : FnAt lam h) (hI : I.StaysIn h) (hm : Makes w I lam [] ma 4 50) (hma : h.get? ma = some (listO ys nm)) (hl : ys.length ≤ 1000) (hes : es.length ≤ 1000) (hbm : b ≠ ma)
    (h1 : ∀ v, findV es x = some v → R (.ok (.ret v)) ⟨h, g, d, tk + 1, os⟩)
    (h2 : findV es x = none → ∀ T t1 t2 hsh n' n2 h' tk', (∀ c o, c ≠ ma → c ≠ b → h.get? c = some o → h'.get? c = some o) → h'.get? ma = some (listO (ys ++ [.int (ys.length : Int) t1]) n') → h.get? T = none → h'.get? T = some (listO [.int (ys.length : Int) t1] 0) →
      h'.get? b = some (bookO dx (es ++ [⟨hsh, .str x t2, .ref T⟩]) n2 lam) → R (.ok (.ret (.ref T))) ⟨h', g, d, tk', os⟩) :
    codeAny (model PySem.Challenge.rw_in0106_01.row.prog w) A (.call (.builtin "dict.__getitem__") ⟨[.ref b, .str x t], []⟩) R ⟨h, g, d, tk, os⟩ := by
  have G := G0.keeps hI
  refine get65 G.kin hb hall hb65 h1 fun hn => ?_
  obtain ⟨lc, ld, lf, ls, hlo⟩ := hlam
  refine missing_spec w mg mb b dx lam es as n na x t _ h g d _ os _ G (rm.le.in1 (u := 90)) hb hdx hb65 (.inl ⟨hf, fun T A' h' tk' rm' k eT => ?_⟩)
  refine miss_call (G.keeps k).kin eT (k _ _ hb) (k _ _ hlo) rfl ?_
  refine hm ys nm _ h' g d tk' os _ (fun b o e => k _ _ (hI _ _ e)) (rm'.le.in1 (u := 70)) (k _ _ hma) hl fun T2 t2 n' h2' tk2 k2 e2 n2 f2 => ?_
  have hb2 := k2 _ _ hbm (k _ _ hb)
  have X2 : (hd.heap_39 w.params).In h2' := (G0.keeps (h := h2') fun a o e => k2 a o (fun q => by rw [q, Ima] at e; cases e) (k _ _ (hI _ _ e))).kin
  refine set_default X2 hb2 hall hb65 hn hes fun h3 hsh n3 hs e3 => ?_
  have hTb : T2 ≠ b := fun q => by rw [q, k _ _ hb] at n2; cases n2
  refine h2 hn T2 t2 t hsh n' n3 h3 _ (fun c o hc hcb e => (hs.2 _ hcb).trans (k2 _ _ hc (k _ _ e))) ((hs.2 _ (Ne.symm hbm)).trans e2) (isNone_of fun o e => by have := k _ _ e; rw [n2] at this; cases this) ((hs.2 _ hTb).trans f2) e3
end

def fdOf (K : Frag) (a : Addr) : Option FuncData := match K.lookup a with | some ⟨_, _, .func fd, _⟩ => some fd | _ => none
def bodyOf (K : Frag) (a : Addr) : List Stmt := match fdOf K a with | some fd => (match fd.body with | .stmts b => b | _ => []) | _ => []
def scopeOf (K : Frag) (a : Addr) : Scope := match fdOf K a with | some fd => fd.scope | _ => { kind := .function, names := [], isGenerator := false, isCoroutine := false }
theorem body_is {K : Frag} {a : Addr} {M : Model} {A : Around} {Q : Flow → Shared → Prop} {E : Value → Shared → Prop} {s : Shared} {q : Str} {L : Addr} {cd : Value} {n : Nat} {B : List Stmt} {S : Scope} (hB : bodyOf K a = B) (hS : scopeOf K a = S) (h : wpAny M A (execs (B.drop n) (envOfC q S L a cd)) Q E s) :
    wpAny M A (execs ((bodyOf K a).drop n) (envOfC q (scopeOf K a) L a cd)) Q E s := hB ▸ hS ▸ h

theorem Fm.perm {I h : Heap} {L : Addr} {m : Str → Option Value} {mu mu' : Led} (F : Fm I L h m mu) (p : List.Perm mu mu') : Fm I L h m mu' :=
  ⟨F.ns, F.keep, F.out, fun q hq => F.mus q (p.mem_iff.mpr hq), (p.map _).nodup_iff.mp F.nd⟩
/-- one of the turning objects is turned; the rest stays -/
theorem Fm.updE {I h h' : Heap} {L a : Addr} {m : Str → Option Value} {pre post : Led} {o o' : Obj} (F : Fm I L h m (pre ++ (a, o) :: post)) (k : ∀ c ob, c ≠ a → h.get? c = some ob → h'.get? c = some ob) (ho : h'.get? a = some o') : Fm I L h' m (pre ++ (a, o') :: post) := by
  have Da := F.mus (a, o) (by simp)
  have nd := F.nd
  rw [List.map_append, List.map_cons] at nd
  have nd2 := List.nodup_append.mp nd
  have npre : ∀ p ∈ pre, p.1 ≠ a := fun p hp e => nd2.2.2 p.1 (List.mem_map_of_mem hp) a (by simp) e
  have npost : ∀ p ∈ post, p.1 ≠ a := fun p hp e => (List.nodup_cons.mp nd2.2.1).1 (List.mem_map.mpr ⟨p, hp, e⟩)
  refine ⟨F.ns.at' fun ob e => k _ _ (Ne.symm Da.2.1) e, fun b ob e => k _ _ (fun q => by rw [q] at e; rw [Da.2.2] at e; cases e) (F.keep b ob e), F.out, fun p hp => ?_, by rw [List.map_append, List.map_cons]; exact nd⟩
  rcases List.mem_append.mp hp with hp | hp
  · have P := F.mus p (List.mem_append_left _ hp)
    exact ⟨k _ _ (npre p hp) P.1, P.2⟩
  · rcases List.mem_cons.mp hp with rfl | hp
    · exact ⟨ho, Da.2⟩
    · have P := F.mus p (List.mem_append_right _ (.tail _ hp))
      exact ⟨k _ _ (npost p hp) P.1, P.2⟩
theorem Fm.upd2 {I h h' : Heap} {L a b : Addr} {m : Str → Option Value} {mu : Led} {oa ob oa' ob' : Obj} (F : Fm I L h m ((b, ob) :: (a, oa) :: mu)) (k : ∀ c o, c ≠ a → c ≠ b → h.get? c = some o → h'.get? c = some o) (eb : h'.get? b = some ob') (ea : h'.get? a = some oa') :
    Fm I L h' m ((b, ob') :: (a, oa') :: mu) := by
  have Db := F.mus (b, ob) (by simp)
  have Da := F.mus (a, oa) (by simp)
  have nd := F.nd
  simp only [List.map_cons, List.nodup_cons, List.mem_cons, not_or] at nd
  refine ⟨F.ns.at' fun o e => k _ _ (Ne.symm Da.2.1) (Ne.symm Db.2.1) e, fun c o e => k _ _ (fun q => by rw [q] at e; rw [Da.2.2] at e; cases e) (fun q => by rw [q] at e; rw [Db.2.2] at e; cases e) (F.keep c o e), F.out, fun p hp => ?_, F.nd⟩
  rcases List.mem_cons.mp hp with rfl | hp
  · exact ⟨eb, Db.2⟩
  · rcases List.mem_cons.mp hp with rfl | hp
    · exact ⟨ea, Da.2⟩
    · have P := F.mus p (.tail _ (.tail _ hp))
      exact ⟨k _ _ (fun q => nd.2.1 (q ▸ List.mem_map_of_mem hp)) (fun q => nd.1.2 (q ▸ List.mem_map_of_mem hp)) P.1, P.2⟩
theorem Fm.new2 {I h h' : Heap} {L S T : Addr} {o ob : Obj} {m : Str → Option Value} {mu : Led} (F : Fm I L h m mu) (k : h.StaysIn h') (hn : h.get? T = none) (hn2 : h.get? S = none) (ho : h'.get? T = some o) (ho2 : h'.get? S = some ob) (ne : T ≠ S) : Fm I L h' m ((T, o) :: (S, ob) :: mu) := by
  refine (F.new k hn2 ho2).add ho (fun q => by obtain ⟨oL, _, _, hL, _⟩ := F.ns; rw [← q, hn] at hL; cases hL) (isNone_of fun o' e => by have := F.keep _ _ e; rw [hn] at this; cases this) fun hm => ?_
  rcases List.mem_cons.mp hm with q | hm
  · exact ne q
  · obtain ⟨p, hp, e⟩ := List.mem_map.mp hm; have := (F.mus p hp).1; rw [e, hn] at this; cases this

theorem Fm.del {I h : Heap} {L : Addr} {m : Str → Option Value} {pre post : Led} {p : Addr × Obj} (F : Fm I L h m (pre ++ p :: post)) : Fm I L h m (pre ++ post) :=
  F.sub ((List.sublist_cons_self _ _).append_left _)
theorem Fm.nth {I h : Heap} {L : Addr} {m : Str → Option Value} {mu : Led} {p : Addr × Obj} (F : Fm I L h m mu) (n : Nat) (e : mu[n]? = some p) : h.get? p.1 = some p.2 := (F.mus p (List.mem_of_getElem? e)).1
theorem nd_erase : ∀ {mu : Led} {n : Nat} {p : Addr × Obj}, (mu.map (·.1)).Nodup → mu[n]? = some p → p.1 ∉ (mu.eraseIdx n).map (·.1)
  | [], _, _, _, e => by simp at e
  | q :: r, 0, p, nd, e => by
    simp only [List.getElem?_cons_zero, Option.some.injEq] at e
    subst e
    simpa using (List.nodup_cons.mp nd).1
  | q :: r, n + 1, p, nd, e => by
    have nd' := List.nodup_cons.mp nd
    have e' : r[n]? = some p := by simpa using e
    rw [List.eraseIdx_cons_succ, List.map_cons, List.mem_cons, not_or]
    exact ⟨fun q' => nd'.1 (List.mem_map.mpr ⟨p, List.mem_of_getElem? e', q'⟩), nd_erase nd'.2 e'⟩
/-- one of the turning objects turns no more -/
theorem Fm.settle {I h : Heap} {L : Addr} {m : Str → Option Value} {mu : Led} {p : Addr × Obj} (F : Fm I L h m mu) (n : Nat) (e : mu[n]? = some p) : ∃ I', I.StaysIn I' ∧ Fm I' L h m (mu.eraseIdx n) ∧ I'.get? p.1 = some p.2 := by
  obtain ⟨I', k, F', hab⟩ := (F.sub (List.eraseIdx_sublist mu n)).absorb
  have P := F.mus p (List.mem_of_getElem? e)
  exact ⟨I', k, F', hab _ _ P.1 P.2.1 (nd_erase F.nd e)⟩
theorem Fm.hidden {I0 h : Heap} {L : Addr} {m : Str → Option Value} {mu : Led} (F : Fm I0 L h m mu) : ∀ b ∈ L :: mu.map (·.1), (∃ o, h.get? b = some o) ∧ I0.get? b = none := fun b hb => by
  rcases List.mem_cons.mp hb with rfl | hb
  · exact ⟨let ⟨o, _, _, e, _⟩ := F.ns; ⟨o, e⟩, F.out⟩
  · obtain ⟨p, hp, rfl⟩ := List.mem_map.mp hb
    exact ⟨⟨_, (F.mus p hp).1⟩, (F.mus p hp).2.2⟩
/-- over more that stays: the frame and the turning objects hidden -/
theorem Fm.over {I0 I h h' : Heap} {L D : Addr} {m : Str → Option Value} {mu : Led} {o : Obj} (F : Fm I0 L h m mu) (hI : I.StaysIn h') (hx : ∀ b ∈ L :: mu.map (·.1), I.get? b = none) (k : h.StaysIn h') (nD : h.get? D = none) (iD : I.get? D = none) (eD : h'.get? D = some o) :
    Fm I L h' m ((D, o) :: mu) := by
  have F' : Fm I L h' m mu := ⟨F.ns.keeps k, hI, hx _ (.head _), fun p hp => ⟨k _ _ (F.mus p hp).1, (F.mus p hp).2.1, hx _ (.tail _ (List.mem_map_of_mem hp))⟩, F.nd⟩
  refine F'.add eD (fun q => by obtain ⟨oL, _, _, hL, _⟩ := F.ns; rw [← q, nD] at hL; cases hL) iD fun hm => ?_
  obtain ⟨p, hp, e⟩ := List.mem_map.mp hm
  have := (F.mus p hp).1
  rw [e, nD] at this; cases this
section
variable {prog : Program} {w : World} {A : Around} {E : Value → Shared → Prop} {g : Array GenState} {d : Drawn} {os : OsState} {env : Env}
/-- a comprehension over a list that turns nothing -/
theorem comp_list {elt iter : Expr} {x : Str} {px : Pos} {ifs : List Expr} {scope : Scope} {cl : List (Str × Addr)} {pos : Pos} {Q : Value → Shared → Prop} {s : Shared} (hh : A.handled = none)
    (hclos : closureFor scope env = pure cl) (hcell : ∀ y ∈ scope.names, y.2 ≠ .cell) (hkind : scope.kind = .function)
    (hnames : ∀ y ∈ scope.names, y.2 = .local → scope.names.lookup y.1 = some .local) (hx : scope.names.lookup x = some .local)
    (hs : ∀ x, foldedSetIterable iter env x = pure x)
    (h : wpAny (model prog w) A (eval iter env) (fun xv s₁ => ∃ (h : Heap) (tk : Nat) (l : Addr) (items : Array Value) (Inv : Nat → List Value → Heap → Prop) (I0 : Heap) (L : Addr) (m : Str → Option Value) (mu : Led), s₁ = ⟨h, g, d, tk, os⟩ ∧ xv = .ref l ∧ h.IsList l items ∧ items.size ≤ sizeLine ∧ Fm I0 L h m mu ∧ Inv 0 [] I0 ∧
      (∀ C i v ys I h₁ tk₁ E' m₁, i < items.size → items[i]? = some v → Inv i ys I → I0.StaysIn I → I.StaysIn h₁ → h₁.Ns C m₁ → m₁ x = some v → Turn prog w A E' g d os (compEnvC scope cl C env) elt ifs (fun ys mu I => mu = [] ∧ Inv (i + 1) ys I) ys [] I h₁ tk₁) ∧
      (∀ D ys I h' tk' k, Inv items.size ys I → I0.StaysIn I → h.StaysIn h' → Fm I L h' m ((D, listO ys k) :: mu) → ys.length ≤ items.size → Q (.ref D) ⟨h', g, d, tk', os⟩)) E s) :
    wpAny (model prog w) A (eval (.ListComp elt [⟨.Name x px, iter, ifs, 0⟩] scope pos) env) Q E s := by
  refine comp_expr (g := g) (d := d) (os := os) hclos hcell hkind hnames hx hs (wpAny_mono h (fun xv s₁ h₁ => ?_) fun _ _ e => e)
  obtain ⟨h, tk, l, items, Inv, I0, L, m, mu, rfl, rfl, hl, hz, F, hi0, turn, fin⟩ := h₁
  refine iter_list hl fun It h6 k6 l6 ne6 hst6 hl6 => ?_
  have hIt : h.get? It = none := isNone_of fun o e => absurd (Heap.lt_size e) (Nat.not_lt.mpr l6)
  have nIt : ∀ b o, h.get? b = some o → b ∉ [It] := fun b o e hm => by rw [List.mem_singleton.mp hm, hIt] at e; cases e
  refine ⟨h6, items.size, fun i ys mu I => mu = [] ∧ Inv i ys I, I0, [], [It], L :: mu.map (·.1), tk, rfl, ⟨It, [It, l], _, _, rfl, Walks.list hh It l ne6 items, ?_, hz, ⟨hst6, hl6⟩, ?_, fun b o e => k6 _ _ (F.keep _ _ e), ?_, (fun _ hp => nomatch hp), ⟨rfl, hi0⟩, ?_, ?_⟩, ?_⟩
  · exact fun i h st b hb => by rw [List.mem_singleton.mp hb]; obtain ⟨⟨o, ho, _⟩, _⟩ := st; exact ⟨o, ho⟩
  · intro b hb
    rcases List.mem_cons.mp hb with rfl | hb
    · obtain ⟨o, ho, _⟩ := hst6; exact Heap.lt_size ho
    · rw [List.mem_singleton.mp hb]; obtain ⟨o, ho, _⟩ := hl6; exact Heap.lt_size ho
  · exact fun b hb => by rw [List.mem_singleton.mp hb]; exact isNone_of fun o e => by have := F.keep _ _ e; rw [hIt] at this; cases this
  · intro b hb
    obtain ⟨⟨o, e⟩, e0⟩ := F.hidden b hb
    exact ⟨⟨o, k6 _ _ e⟩, nIt _ _ e, (by simp), e0⟩
  · rintro C i v ys mu I h₁ tk₁ E' hC hi hv ⟨rfl, hv2⟩ hII hI _ _ ⟨m₁, hn, hm⟩
    exact turn C i v ys I h₁ tk₁ E' m₁ hi hv hv2 hII hI hn hm
  · rintro D ys mu I h7 tk7 ⟨rfl, hys⟩ hII hI ⟨k, hD⟩ hl7 _ _ hnD iD hxx hk
    exact fin D ys I h7 tk7 k hys hII (fun b o e => hk b o (nIt _ _ e) (by simp) (k6 _ _ e)) (F.over hI hxx (fun b o e => hk b o (nIt _ _ e) (by simp) (k6 _ _ e)) (isNone_of fun o e => by have := k6 _ _ e; rw [hnD] at this; cases this) iD hD) hl7
/-- a comprehension over a range that turns nothing -/
theorem comp_range {elt iter : Expr} {x : Str} {px : Pos} {ifs : List Expr} {scope : Scope} {cl : List (Str × Addr)} {pos : Pos} {Q : Value → Shared → Prop} {s : Shared} (hh : A.handled = none)
    (hclos : closureFor scope env = pure cl) (hcell : ∀ y ∈ scope.names, y.2 ≠ .cell) (hkind : scope.kind = .function)
    (hnames : ∀ y ∈ scope.names, y.2 = .local → scope.names.lookup y.1 = some .local) (hx : scope.names.lookup x = some .local)
    (hs : ∀ x, foldedSetIterable iter env x = pure x)
    (h : wpAny (model prog w) A (eval iter env) (fun xv s₁ => ∃ (h : Heap) (tk : Nat) (r : Addr) (n : Nat) (t u v : Tok) (Inv : Nat → List Value → Heap → Prop) (I0 : Heap) (L : Addr) (m : Str → Option Value) (mu : Led), s₁ = ⟨h, g, d, tk, os⟩ ∧ xv = .ref r ∧ IsRange h r 0 (n : Nat) 1 t u v ∧ n ≤ 1000 ∧ Fm I0 L h m mu ∧ Inv 0 [] I0 ∧
      (∀ C i ti ys I h₁ tk₁ E' m₁, i < n → Inv i ys I → I0.StaysIn I → I.StaysIn h₁ → h₁.Ns C m₁ → m₁ x = some (.int (i : Nat) ti) → Turn prog w A E' g d os (compEnvC scope cl C env) elt ifs (fun ys mu I => mu = [] ∧ Inv (i + 1) ys I) ys [] I h₁ tk₁) ∧
      (∀ D ys I h' tk' k, Inv n ys I → I0.StaysIn I → h.StaysIn h' → Fm I L h' m ((D, listO ys k) :: mu) → ys.length ≤ n → Q (.ref D) ⟨h', g, d, tk', os⟩)) E s) :
    wpAny (model prog w) A (eval (.ListComp elt [⟨.Name x px, iter, ifs, 0⟩] scope pos) env) Q E s := by
  refine comp_expr (g := g) (d := d) (os := os) hclos hcell hkind hnames hx hs (wpAny_mono h (fun xv s₁ h₁ => ?_) fun _ _ e => e)
  obtain ⟨h, tk, r, n, t, u, v, Inv, I0, L, m, mu, rfl, rfl, hr, hz, F, hi0, turn, fin⟩ := h₁
  refine iter_range_obj (n := n) hr (by rw [rangeSize_one]; split <;> omega) (small_one (by omega) (by omega) (by omega) (by omega)) fun It h6 k6 l6 hst => ?_
  have hIt : h.get? It = none := isNone_of fun o e => absurd (Heap.lt_size e) (Nat.not_lt.mpr l6)
  have nIt : ∀ b o, h.get? b = some o → b ∉ [It] := fun b o e hm => by rw [List.mem_singleton.mp hm, hIt] at e; cases e
  refine ⟨h6, n, fun i ys mu I => mu = [] ∧ Inv i ys I, I0, [], [It], L :: mu.map (·.1), tk, rfl, ⟨It, [It], _, _, rfl, Walks.range hh It 0 1 n, ?_, by rw [sizeLine_eq]; omega, hst, ?_, fun b o e => k6 _ _ (F.keep _ _ e), ?_, (fun _ hp => nomatch hp), ⟨rfl, hi0⟩, ?_, ?_⟩, ?_⟩
  · exact fun i h st b hb => by rw [List.mem_singleton.mp hb]; exact ⟨_, st⟩
  · exact fun b hb => by rw [List.mem_singleton.mp hb]; exact Heap.lt_size hst
  · exact fun b hb => by rw [List.mem_singleton.mp hb]; exact isNone_of fun o e => by have := F.keep _ _ e; rw [hIt] at this; cases this
  · intro b hb
    obtain ⟨⟨o, e⟩, e0⟩ := F.hidden b hb
    exact ⟨⟨o, k6 _ _ e⟩, nIt _ _ e, (by simp), e0⟩
  · rintro C i v ys mu I h₁ tk₁ E' hC hi ⟨tv, rfl⟩ ⟨rfl, hv2⟩ hII hI _ _ ⟨m₁, hn, hm⟩
    have e : (0 : Int) + (i : Int) * 1 = (i : Int) := by omega
    rw [e] at hm
    exact turn C i tv ys I h₁ tk₁ E' m₁ hi hv2 hII hI hn hm
  · rintro D ys mu I h7 tk7 ⟨rfl, hys⟩ hII hI ⟨k, hD⟩ hl7 _ _ hnD iD hxx hk
    exact fin D ys I h7 tk7 k hys hII (fun b o e => hk b o (nIt _ _ e) (by simp) (k6 _ _ e)) (F.over hI hxx (fun b o e => hk b o (nIt _ _ e) (by simp) (k6 _ _ e)) (isNone_of fun o e => by have := k6 _ _ e; rw [hnD] at this; cases this) iD hD) hl7
end

theorem strs_at : ∀ {evs : List Value} {ss : List Str}, StrsAre evs ss → ∀ (i : Nat) (v : Value), evs[i]? = some v → ∃ x t, v = .str x t ∧ ss[i]? = some x := by
  intro evs ss H
  induction H with
  | nil => intro i v h; simp at h
  | cons x t _ ih =>
    intro i v h
    cases i with
    | zero => simp at h; subst h; exact ⟨x, t, rfl, by simp⟩
    | succ i => obtain ⟨x', t', e1, e2⟩ := ih i v (by simpa using h); exact ⟨x', t', e1, by simpa using e2⟩
theorem strs_len {evs : List Value} {ss : List Str} (H : StrsAre evs ss) : evs.length = ss.length := by
  induction H with
  | nil => rfl
  | cons _ _ _ ih => rw [List.length_cons, List.length_cons, ih]
theorem isList_keeps {h h' : Heap} {a : Addr} {items : Array Value} (H : h.IsList a items) (k : h.StaysIn h') : h'.IsList a items := let ⟨o, ho, r⟩ := H; ⟨o, k _ _ ho, r⟩
theorem txs_at {evs : List Value} {E : List (List Nat)} (H : StrsAre evs (E.map tx)) {i : Nat} {v : Value} (h : evs[i]? = some v) : ∃ t, v = .str (tx (E.getD i [])) t ∧ i < E.length := by
  obtain ⟨x, t, rfl, e⟩ := strs_at H i v h
  rw [List.getElem?_map] at e
  cases q : E[i]? with
  | none => rw [q] at e; cases e
  | some l =>
    rw [q] at e; cases e
    refine ⟨t, by rw [List.getD_eq_getElem?_getD, q]; rfl, ?_⟩
    exact (List.getElem?_eq_some_iff.mp q).1
/-- the leads that stand in a list -/
def LeadsIn (I : Heap) (ys : List Value) (E : List (List Nat)) (n : Nat) : Prop := ys.length = n ∧ ∀ j, j < n → ∃ x, ys[j]? = some (.ref x) ∧ LeadAt I x (E.getD j [])
theorem LeadsIn.snoc {I I' : Heap} {ys : List Value} {E : List (List Nat)} {n : Nat} {x : Addr} (H : LeadsIn I ys E n) (k : I.StaysIn I') (hx : LeadAt I' x (E.getD n [])) : LeadsIn I' (ys ++ [.ref x]) E (n + 1) := by
  refine ⟨by rw [List.length_append, H.1]; rfl, fun j hj => ?_⟩
  by_cases q : j < n
  · obtain ⟨y, e, hy⟩ := H.2 j q
    exact ⟨y, by rw [List.getElem?_append_left (by rw [H.1]; exact q)]; exact e, hy.keeps k⟩
  · have : j = n := by omega
    subst this
    exact ⟨x, by rw [List.getElem?_append_right (by rw [H.1]; exact Nat.le_refl _), H.1]; simp, hx⟩
theorem LeadsIn.keeps {I I' : Heap} {ys : List Value} {E : List (List Nat)} {n : Nat} (H : LeadsIn I ys E n) (k : I.StaysIn I') : LeadsIn I' ys E n := ⟨H.1, fun j hj => let ⟨x, e, hx⟩ := H.2 j hj; ⟨x, e, hx.keeps k⟩⟩
/-- the rows of columns that stand in a list -/
def ColsIn (I : Heap) (ys : List Value) (E : List (List Nat)) (n : Nat) : Prop := ys.length = n ∧ ∀ j, j < n → ∃ c vs k, ys[j]? = some (.ref c) ∧ I.get? c = some (listO vs k) ∧ IntsAre vs (colsL (E.getD j []))
theorem ColsIn.snoc {I I' : Heap} {ys vs : List Value} {E : List (List Nat)} {n k : Nat} {c : Addr} (H : ColsIn I ys E n) (kk : I.StaysIn I') (hc : I'.get? c = some (listO vs k)) (hv : IntsAre vs (colsL (E.getD n []))) : ColsIn I' (ys ++ [.ref c]) E (n + 1) := by
  refine ⟨by rw [List.length_append, H.1]; rfl, fun j hj => ?_⟩
  by_cases q : j < n
  · obtain ⟨y, vs', k', e, hy, r⟩ := H.2 j q
    exact ⟨y, vs', k', by rw [List.getElem?_append_left (by rw [H.1]; exact q)]; exact e, kk _ _ hy, r⟩
  · have : j = n := by omega
    subst this
    exact ⟨c, vs, k, by rw [List.getElem?_append_right (by rw [H.1]; exact Nat.le_refl _), H.1]; simp, hc, hv⟩
theorem ColsIn.keeps {I I' : Heap} {ys : List Value} {E : List (List Nat)} {n : Nat} (H : ColsIn I ys E n) (k : I.StaysIn I') : ColsIn I' ys E n := ⟨H.1, fun j hj => let ⟨c, vs, kk, e, hx, r⟩ := H.2 j hj; ⟨c, vs, kk, e, k _ _ hx, r⟩⟩
/-- a cell that holds v -/
def CellAt (I : Heap) (c : Addr) (v : Value) : Prop := ∃ o, I.get? c = some o ∧ o.data = .cell (some v)
theorem CellAt.keeps {I I' : Heap} {c : Addr} {v : Value} (H : CellAt I c v) (k : I.StaysIn I') : CellAt I' c v := let ⟨o, e, d⟩ := H; ⟨o, k _ _ e, d⟩

noncomputable abbrev K₀ (w : World) : Frag := hd.heap_39 w.params
noncomputable abbrev ev (w : World) (L : Addr) : Env := envOfC "_law_lookups_are_right" (scopeOf (K₀ w) 166) L 166 (.ref 165)

/-- what stands behind the first five statements -/
structure BaseA (w : World) (mg mb : Str → Option Value) (I : Heap) (L : Addr) (E : List (List Nat)) (b lam ma la ca pa : Addr) : Prop where
  gd : Gd w mg mb I
  cb : CellAt I (L + 1) (.ref b)
  cl : CellAt I (L + 2) (.ref la)
  cc : CellAt I (L + 3) (.ref ca)
  cp : CellAt I (L + 4) (.ref pa)
  cm : CellAt I (L + 9) (.ref ma)
  leads : ∃ ys k, I.get? la = some (listO ys k) ∧ LeadsIn I ys E E.length
  cols : ∃ ys k, I.get? ca = some (listO ys k) ∧ ColsIn I ys E E.length
  places : ∃ t u v, IsRange I pa 0 (E.length : Nat) 1 t u v
  fnl : FnAt lam I
  makes : Makes w I lam [] ma 4 50
  b65 : 65 < b
theorem BaseA.keeps {w : World} {mg mb : Str → Option Value} {I I' : Heap} {L : Addr} {E : List (List Nat)} {b lam ma la ca pa : Addr} (B : BaseA w mg mb I L E b lam ma la ca pa) (k : I.StaysIn I') : BaseA w mg mb I' L E b lam ma la ca pa :=
  ⟨B.gd.keeps k, B.cb.keeps k, B.cl.keeps k, B.cc.keeps k, B.cp.keeps k, B.cm.keeps k, let ⟨ys, kk, e, h⟩ := B.leads; ⟨ys, kk, k _ _ e, h.keeps k⟩, let ⟨ys, kk, e, h⟩ := B.cols; ⟨ys, kk, k _ _ e, h.keeps k⟩,
   let ⟨t, u, v, e⟩ := B.places; ⟨t, u, v, k _ _ e⟩, let ⟨a, b, c, d, e⟩ := B.fnl; ⟨a, b, c, d, k _ _ e⟩, B.makes.keeps k, B.b65⟩

set_option maxHeartbeats 4000000 in
theorem pieceA (w : World) (mg mb : Str → Option Value) :
  ∀ (E : List (List Nat)) (ea L : Addr) (evs : List Value) (A : Around) (I h : Heap) (m : Str → Option Value) (g : Array GenState) (d : Drawn) (tk : Nat) (os : OsState) (o : Nat → Obj) (Q : Flow → Shared → Prop) (Er : Value → Shared → Prop),
    Gd w mg mb I → Rm A 12 120 → (∀ i, ∃ v, (o i).data = .cell v) → CodeHd I 165 163 →
    Fm I L h m [(163, tabObj #[]), (57, tabObj #[]), (L + 1, o 1), (L + 2, o 2), (L + 3, o 3), (L + 4, o 4), (L + 5, o 5), (L + 6, o 6), (L + 7, o 7), (L + 8, o 8), (L + 9, o 9)] →
    m (Str.ofString "entered") = some (.ref ea) → I.IsList ea evs.toArray → StrsAre evs (E.map tx) → E.length ≤ 10 → (∀ l ∈ E, l.length ≤ 100) →
    (∀ I' b dx lam ma la ca pa ps k h' tk', I.StaysIn I' → BaseA w mg mb I' L E b lam ma la ca pa →
      Fm I' L h' m [(b, bookO dx [] 0 lam), (ma, listO [] k), (dx, dictOf [] 0), (163, tabObj ps), (57, tabObj #[]), (L + 5, o 5), (L + 6, o 6), (L + 7, o 7), (L + 8, o 8)] →
      wpAny (model PySem.Challenge.rw_in0106_01.row.prog w) A (execs ((bodyOf (K₀ w) 166).drop 5) (ev w L)) Q Er ⟨h', g, d, tk', os⟩) →
    wpAny (model PySem.Challenge.rw_in0106_01.row.prog w) A (execs ((bodyOf (K₀ w) 166).drop 0) (ev w L)) Q Er ⟨h, g, d, tk, os⟩ := by
  intro E ea L evs A I h m g d tk os o Q Er G rm ho C F mE hevs hEl hn10 hE hret
  refine' body_is (B := [?s0, ?s1, ?s2, ?s3, ?s4, ?s5, ?s6, ?s7, ?s8, ?s9, ?s10]) (S := ⟨?k, ?n, ?g, ?c, ?m⟩) ?hB ?hS ?_
  case hB => exact rfl
  case hS => exact rfl
  dsimp only [List.drop]
  obtain ⟨mrange, mlen, mtuple, mgetattr, msuper, mlist⟩ := mg_facts G
  obtain ⟨glead, gcolumns, gspelled, gnumbered, glook, gws, gfdd⟩ := mg_own G
  obtain ⟨v1, d1⟩ := ho 1
  obtain ⟨v2, d2⟩ := ho 2
  obtain ⟨v3, d3⟩ := ho 3
  obtain ⟨v4, d4⟩ := ho 4
  obtain ⟨v9, d9⟩ := ho 9
  walk_at "m"
  walk_at "m"
  refine listNew ?_
  walk_at "m"
  refine ⟨by decide, fun ma h1 k1 n1 e1 => ?_⟩
  have F1 := F.new k1 n1 e1
  clear F
  refine stCell (pre := [(ma, listO [] 0), (163, tabObj #[]), (57, tabObj #[]), (L + 1, o 1), (L + 2, o 2), (L + 3, o 3), (L + 4, o 4), (L + 5, o 5), (L + 6, o 6), (L + 7, o 7), (L + 8, o 8)]) (post := []) F1 d9 (by exact rfl) (fun h2 F2 => ?_) rfl rfl
  clear F1
  walk_at "ms"
  walk_at "mCall"
  have G2 := G.keeps F2.keep
  walk_at "mG"
  refine callWith_K (K := K₀ w) (h₀ := h2) G2.kin (by exact rfl) ?_ rfl rfl
  refine wpAny_items_cons ?_ rfl
  refine mkLam (pre := [(ma, listO [] 0)]) (post := [(57, tabObj #[]), (L + 1, o 1), (L + 2, o 2), (L + 3, o 3), (L + 4, o 4), (L + 5, o 5), (L + 6, o 6), (L + 7, o 7), (L + 8, o 8), _]) (clos := [(Str.ofString "made", L + 9)]) G F2 C rfl rfl rfl rfl fun lam c' oc vs tq ctv pm ps h3 tk3 F3 hcd hcq hge hge2 => ?_
  clear F2
  walk_at "ms"
  have G3 := G.keeps F3.keep
  refine ⟨G3.kin, ?_⟩
  show wpAny _ _ (call (.ref 65) [.ref lam]) _ _ _
  refine wpAny_call (book_make G3.kin (F3.get (.head _)) rfl fun b dx h4 tk4 b65 k4 nb ndx neb eb edx => ?_)
  have F4 := F3.new2 k4 nb ndx eb edx neb
  clear F3
  refine stCell (pre := [(b, bookO dx [] 0 lam), (dx, dictOf [] 0), _, _, (ma, listO [] 0), (163, tabObj ps), (57, tabObj #[])]) (post := [(L + 2, o 2), (L + 3, o 3), (L + 4, o 4), (L + 5, o 5), (L + 6, o 6), (L + 7, o 7), (L + 8, o 8), _]) F4 d1 (by exact rfl) (fun h5 F5 => ?_) rfl rfl
  clear F4
  obtain ⟨I6, kI6, F6, cm6⟩ := F5.settle 15 rfl
  obtain ⟨I7, kI7, F7, cb7⟩ := F6.settle 7 rfl
  obtain ⟨I8, kI8, F8, cc8⟩ := F7.settle 3 rfl
  obtain ⟨I9, kI9, F9, cl9⟩ := F8.settle 2 rfl
  replace F9 : Fm I9 L h5 m [(b, bookO dx [] 0 lam), (dx, dictOf [] 0), (ma, listO [] 0), (163, tabObj ps), (57, tabObj #[]), (L + 2, o 2), (L + 3, o 3), (L + 4, o 4), (L + 5, o 5), (L + 6, o 6), (L + 7, o 7), (L + 8, o 8)] := F9
  clear F5 F6 F7 F8
  have cc9 := kI9 _ _ cc8
  have cm9 := kI9 _ _ (kI8 _ _ (kI7 _ _ cm6))
  have cb9 := kI9 _ _ (kI8 _ _ cb7)
  have kI : I.StaysIn I9 := fun b o e => kI9 _ _ (kI8 _ _ (kI7 _ _ (kI6 _ _ e)))
  have G9 := G.keeps kI
  clear cc8 cm6 cb7 kI6 kI7 kI8 kI9
  have mk : Makes w I9 lam [] ma 4 50 := by
    intro ys n A2 hh gg dd tk2 os2 R2 hI2 rm2 hma hlen hq
    have Gh := G9.keeps hI2
    refine lam_enter (dd := 3) (u := 47) (binds := []) Gh.lim rm2 (hI2 _ _ cl9) ⟨c', oc, vs, tq, rfl, hI2 _ _ cc9, hcd, hcq⟩ rfl (fun _ h => nomatch h) fun L2 h4 tk4 A4 E4 m4 F4 hm4 rm4 => ?_
    have Gh4 := Gh.keeps F4.keep
    walk_at "mCall"
    walk_at "mG"
    refine callWith_K (K := K₀ w) (h₀ := h4) Gh4.kin (by exact rfl) ?_ rfl rfl
    refine wpAny_items_cons (ldFree (c := L + 9) rfl (F4.keep _ _ (hI2 _ _ cm9)) rfl ?_ rfl rfl rfl rfl) rfl
    refine wpAny_items_nil ⟨Gh4.kin, ?_⟩
    show wpAny _ _ (call (.ref 161) [.ref ma]) _ _ _
    refine wpAny_call (numbered_spec w mg mb ma ys n A4 h4 _ _ _ _ _ Gh4 rm4.le (F4.keep _ _ hma) hlen fun T t2 n' h5 tk5 k5 e5 n5 f5 => ?_)
    exact hq T t2 n' h5 tk5 (fun b o hb e => k5 b o hb (F4.keep _ _ e)) e5 (isNone_of fun o e => by have := F4.keep _ _ e; rw [n5] at this; cases this) f5
  have hlen : evs.toArray.size = E.length := by rw [List.size_toArray, strs_len hEl, List.length_map]
  walk_at "m"
  walk_at "m"
  refine comp_list (g := g) (d := d) (os := os) (cl := []) rm.handled rfl (by decide) rfl (by decide) (by decide +kernel) (fun _ => rfl) ?_
  walk_at "mL"
  refine ⟨_, _, ea, evs.toArray, fun i ys I => LeadsIn I ys E i, I9, L, m, _, rfl, rfl, isList_keeps hevs fun b o e => F9.keep _ _ (kI _ _ e), by rw [hlen, sizeLine_eq]; omega, F9, ⟨rfl, fun j hj => absurd hj (Nat.not_lt_zero _)⟩, ?_, ?_⟩
  · intro C i v ys I1 h6 tk6 E6 m6 hi hv hys hI1 hI6 hn hm
    obtain ⟨t, rfl, hiE⟩ := txs_at hEl (by simpa using hv)
    refine turn_all ?_
    have G6 := G9.keeps (fun b o e => hI6 _ _ (hI1 _ _ e))
    walk_at "mCall"
    walk_at "mG"
    refine callWith_K (K := K₀ w) (h₀ := h6) G6.kin (by exact rfl) ?_ rfl rfl
    refine wpAny_items_cons (ldNs hn hm ?_ rfl rfl rfl) rfl
    refine wpAny_items_nil ⟨G6.kin, ?_⟩
    show wpAny _ _ (call (.ref 131) [.str _ t]) _ _ _
    refine wpAny_call (ws_spec w mg mb _ t _ h6 g d _ os _ G6 rm.le (hE _ (by rw [List.getD_eq_getElem?_getD, List.getElem?_eq_getElem hiE]; exact List.getElem_mem _)) fun x h7 tk7 k7 n7 H7 => ?_)
    exact elt_pure (Inv := fun ys mu I => mu = [] ∧ LeadsIn I ys E (i + 1)) k7 fun I' hI' hnew => ⟨rfl, hys.snoc hI' (H7 I' hnew)⟩
  · intro la ys I1 h6 tk6 kl hys hI1 _ F10 _
    rw [hlen] at hys
    refine stCell (pre := [(la, listO ys kl), (b, bookO dx [] 0 lam), (dx, dictOf [] 0), (ma, listO [] 0), (163, tabObj ps), (57, tabObj #[])]) (post := [(L + 3, o 3), (L + 4, o 4), (L + 5, o 5), (L + 6, o 6), (L + 7, o 7), (L + 8, o 8)]) F10 d2 (by exact rfl) (fun h7 F11 => ?_) rfl rfl
    obtain ⟨I12, kI12, F12, ccl⟩ := F11.settle 6 rfl
    obtain ⟨I13, kI13, F13, cla⟩ := F12.settle 0 rfl
    replace F13 : Fm I13 L h7 m [(b, bookO dx [] 0 lam), (dx, dictOf [] 0), (ma, listO [] 0), (163, tabObj ps), (57, tabObj #[]), (L + 3, o 3), (L + 4, o 4), (L + 5, o 5), (L + 6, o 6), (L + 7, o 7), (L + 8, o 8)] := F13
    have kl13 : I1.StaysIn I13 := fun b o e => kI13 _ _ (kI12 _ _ e)
    replace ccl := kI13 _ _ ccl
    replace hys := hys.keeps kl13
    have k13 : I9.StaysIn I13 := fun b o e => kl13 _ _ (hI1 _ _ e)
    have G13 := G9.keeps k13
    clear F9 F10 F11 F12 kI12 kI13
    walk_at "m"
    walk_at "m"
    refine comp_list (g := g) (d := d) (os := os) (cl := []) rm.handled rfl (by decide) rfl (by decide) (by decide +kernel) (fun _ => rfl) ?_
    walk_at "mL"
    refine ⟨_, _, ea, evs.toArray, fun i ys I => ColsIn I ys E i, I13, L, m, _, rfl, rfl, isList_keeps hevs fun b o e => F13.keep _ _ (k13 _ _ (kI _ _ e)), by rw [hlen, sizeLine_eq]; omega, F13, ⟨rfl, fun j hj => absurd hj (Nat.not_lt_zero _)⟩, ?_, ?_⟩
    · intro C i v ys I1 h6 tk6 E6 m6 hi hv hys hI1 hI6 hn hm
      obtain ⟨t, rfl, hiE⟩ := txs_at hEl (by simpa using hv)
      refine turn_all ?_
      have G6 := G13.keeps (fun b o e => hI6 _ _ (hI1 _ _ e))
      walk_at "mCall"
      walk_at "mG"
      refine callWith_K (K := K₀ w) (h₀ := h6) G6.kin (by exact rfl) ?_ rfl rfl
      refine wpAny_items_cons (ldNs hn hm ?_ rfl rfl rfl) rfl
      refine wpAny_items_nil ⟨G6.kin, ?_⟩
      show wpAny _ _ (call (.ref 149) [.str _ t]) _ _ _
      refine wpAny_call (columns_spec w mg mb _ t _ ⟨h6, g, d, _, os⟩ _ G6 rm.le (hE _ (by rw [List.getD_eq_getElem?_getD, List.getElem?_eq_getElem hiE]; exact List.getElem_mem _)) fun c vs h7 tk7 k7 n7 ⟨kc, H7⟩ hvs => ?_)
      exact elt_pure (Inv := fun ys mu I => mu = [] ∧ ColsIn I ys E (i + 1)) k7 fun I' hI' hnew => ⟨rfl, hys.snoc hI' (hnew _ _ H7 n7) hvs⟩
    · intro ca ys2 I1' h8 tk8 kc hys2 hI1' _ F14 _
      rw [hlen] at hys2
      refine stCell (pre := [(ca, listO ys2 kc), (b, bookO dx [] 0 lam), (dx, dictOf [] 0), (ma, listO [] 0), (163, tabObj ps), (57, tabObj #[])]) (post := [(L + 4, o 4), (L + 5, o 5), (L + 6, o 6), (L + 7, o 7), (L + 8, o 8)]) F14 d3 (by exact rfl) (fun h9 F15 => ?_) rfl rfl
      obtain ⟨I16, kI16, F16, ccc⟩ := F15.settle 6 rfl
      obtain ⟨I17, kI17, F17, cca⟩ := F16.settle 0 rfl
      replace F17 : Fm I17 L h9 m [(b, bookO dx [] 0 lam), (dx, dictOf [] 0), (ma, listO [] 0), (163, tabObj ps), (57, tabObj #[]), (L + 4, o 4), (L + 5, o 5), (L + 6, o 6), (L + 7, o 7), (L + 8, o 8)] := F17
      have kl17 : I1'.StaysIn I17 := fun b o e => kI17 _ _ (kI16 _ _ e)
      replace ccc := kI17 _ _ ccc
      replace hys2 := hys2.keeps kl17
      have k17 : I13.StaysIn I17 := fun b o e => kl17 _ _ (hI1' _ _ e)
      have G17 := G13.keeps k17
      have G9' := G17.keeps F17.keep
      clear F14 F15 F16 kI16 kI17 F13
      walk_at "m"
      walk_at "m"
      walk_at "mCall"
      walk_at "mB"
      walk_at "mArgT"
      refine wpAny_items_cons ?_ rfl
      walk_at "mCall"
      walk_at "mB"
      walk_at "mArgB"
      refine wpAny_items_cons ?_ rfl
      walk_at "mL"
      walk_at "ms"
      refine len_list (isList_keeps hevs fun b o e => F17.keep _ _ (k17 _ _ (k13 _ _ (kI _ _ e)))) (by omega) ?_
      walk_at "ms"
      refine call_range_1 ?_
      dsimp only
      refine stCell (pre := [(_, _), (b, bookO dx [] 0 lam), (dx, dictOf [] 0), (ma, listO [] 0), (163, tabObj ps), (57, tabObj #[])]) (post := [(L + 5, o 5), (L + 6, o 6), (L + 7, o 7), (L + 8, o 8)]) (F17.push _ rfl) d4 (by exact rfl) (fun h10 F19 => ?_) rfl rfl
      obtain ⟨I20, kI20, F20, ccp⟩ := F19.settle 6 rfl
      obtain ⟨I21, kI21, F21, cpa⟩ := F20.settle 0 rfl
      replace F21 : Fm I21 L h10 m [(b, bookO dx [] 0 lam), (dx, dictOf [] 0), (ma, listO [] 0), (163, tabObj ps), (57, tabObj #[]), (L + 5, o 5), (L + 6, o 6), (L + 7, o 7), (L + 8, o 8)] := F21
      have k21 : I17.StaysIn I21 := fun b o e => kI21 _ _ (kI20 _ _ e)
      have k13' : I13.StaysIn I21 := fun b o e => k21 _ _ (k17 _ _ e)
      have k9' : I9.StaysIn I21 := fun b o e => k13' _ _ (k13 _ _ e)
      dsimp only at cpa
      rw [hlen] at cpa
      refine hret I21 b dx lam ma la ca _ ps 0 h10 _ (fun b o e => k9' _ _ (kI _ _ e)) ⟨G17.keeps k21, ⟨_, k9' _ _ cb9, rfl⟩, ⟨_, k13' _ _ ccl, rfl⟩, ⟨_, k21 _ _ ccc, rfl⟩, ⟨_, kI21 _ _ ccp, rfl⟩, ⟨_, k9' _ _ cm9, rfl⟩,
        ⟨ys, kl, k13' _ _ cla, hys.keeps k13'⟩, ⟨ys2, kc, k21 _ _ cca, hys2.keeps k21⟩, ⟨_, _, _, cpa⟩, ⟨_, _, _, _, k9' _ _ cl9⟩, mk.keeps k9', b65⟩ (F21.perm ((List.Perm.swap _ _ _).cons _))

section
variable {prog : Program} {w : World} {A : Around} {E : Value → Shared → Prop} {s : Shared}
/-- an item of a list at a place -/
theorem itemL {value slice : Expr} {l : Addr} {items : Array Value} {i : Nat} {u : Tok} {v : Value} {Q : Value → Shared → Prop} (hl : s.heap.IsList l items) (hv : items[i]? = some v) (hi : i < 1000000) (h : Q v s)
    (hs : subscripted slice false (.ref l) (.int (i : Int) u) = operate [.ref l, .int (i : Int) u] (getItem (.ref l) (.int (i : Int) u)) := by with_unfolding_all rfl) :
    wpAny (model prog w) A (subscriptTail value slice (.ref l) (.int (i : Int) u)) Q E s :=
  tail_any hl.typeIs slot_list_getitem.lookup (wpAny_getItem_list hl (by omega) (by omega) (x := v) (by simpa using hv) h) hs
end
theorem all_entry (rs : List RowH) : ((rs.map RowH.entry).all fun e => isExactStrKey e.key) = true := by
  rw [List.all_eq_true]
  intro e he
  obtain ⟨r, _, rfl⟩ := List.mem_map.mp he
  rfl
theorem isListO {h : Heap} {a : Addr} {ys : List Value} {k : Nat} (e : h.get? a = some (listO ys k)) : h.IsList a ys.toArray := ⟨_, e, rfl, _, rfl⟩

noncomputable abbrev κE (E : List (List Nat)) (j : Nat) : List Nat := spellL (normL (E.getD j []))
set_option maxHeartbeats 4000000 in
theorem pieceB (w : World) (mg mb : Str → Option Value) :
  ∀ (E : List (List Nat)) (b dx lam ma la ca pa L : Addr) (A : Around) (I h : Heap) (m : Str → Option Value) (g : Array GenState) (d : Drawn) (tk : Nat) (os : OsState) (k : Nat) (rest : Led) (Q : Flow → Shared → Prop) (Er : Value → Shared → Prop),
    BaseA w mg mb I L E b lam ma la ca pa → Rm A 12 120 → E.length ≤ 10 → (∀ l ∈ E, NB (normL l)) →
    Fm I L h m ((b, bookO dx [] 0 lam) :: (ma, listO [] k) :: (dx, dictOf [] 0) :: rest) →
    (∀ (h' : Heap) m' rows ysm km nb tk', (∀ x, x ≠ Str.ofString "k" → m' x = m x) → RowsAre rows (rowsN (κE E) E.length) → ysm.length = rows.length →
      Fm I L h' m' ((b, bookO dx (rows.map RowH.entry) nb lam) :: (ma, listO ysm km) :: (rows.map RowH.led ++ ((dx, dictOf [] 0) :: rest))) →
      wpAny (model PySem.Challenge.rw_in0106_01.row.prog w) A (execs ((bodyOf (K₀ w) 166).drop 6) (ev w L)) Q Er ⟨h', g, d, tk', os⟩) →
    wpAny (model PySem.Challenge.rw_in0106_01.row.prog w) A (execs ((bodyOf (K₀ w) 166).drop 5) (ev w L)) Q Er ⟨h, g, d, tk, os⟩ := by
  intro E b dx lam ma la ca pa L A I h m g d tk os k rest Q Er B rm hn10 hnb F hret
  refine' body_is (B := [?s0, ?s1, ?s2, ?s3, ?s4, ?s5, ?s6, ?s7, ?s8, ?s9, ?s10]) (S := ⟨?k, ?n, ?g, ?c, ?m⟩) ?hB ?hS ?_
  case hB => exact rfl
  case hS => exact rfl
  dsimp only [List.drop]
  have G := B.gd
  obtain ⟨mrange, mlen, mtuple, mgetattr, msuper, mlist⟩ := mg_facts G
  obtain ⟨glead, gcolumns, gspelled, gnumbered, glook, gws, gfdd⟩ := mg_own G
  obtain ⟨ob, hob, dob⟩ := B.cb
  obtain ⟨ol, hol, dol⟩ := B.cl
  obtain ⟨op, hop, dop⟩ := B.cp
  obtain ⟨lys, lk, hla, hls⟩ := B.leads
  obtain ⟨pt, pu, pv, hpa⟩ := B.places
  have b65 := B.b65
  walk_at "m"
  walk_at "mFor"
  refine ldCell (c := L + 4) rfl (F.keep _ _ hop) dop ?_ rfl rfl rfl
  refine iter_range_obj (n := E.length) (F.keep _ _ hpa) (by rw [rangeSize_one]; split <;> omega) (small_one (by omega) (by omega) (by omega) (by omega)) fun It h1 k1 l1 hst => ?_
  have W1 := Walks.range (prog := PySem.Challenge.rw_in0106_01.row.prog) (w := w) rm.handled It 0 1 E.length
  have nIt : h.get? It = none := isNone_of fun o e => absurd (Heap.lt_size e) (Nat.not_lt.mpr l1)
  have IIt : I.get? It = none := isNone_of fun o e => by have := F.keep _ _ e; rw [nIt] at this; cases this
  have LIt : L ≠ It := fun q => by obtain ⟨o, _, _, e, _⟩ := F.ns; rw [q, nIt] at e; cases e
  refine codeAny_mono (R := fun r s' => r = .ok .next ∧ ∃ h' m' rows ysm km nb tk', s' = ⟨h', g, d, tk', os⟩ ∧ (∀ x, x ≠ Str.ofString "k" → m' x = m x) ∧ RowsAre rows (rowsN (κE E) E.length) ∧ ysm.length = rows.length ∧
      Fm I L h' m' ((b, bookO dx (rows.map RowH.entry) nb lam) :: (ma, listO ysm km) :: (rows.map RowH.led ++ ((dx, dictOf [] 0) :: rest))))
    (forW W1 (fun i hh => ∃ m' rows ysm km nb, (∀ x, x ≠ Str.ofString "k" → m' x = m x) ∧ RowsAre rows (rowsN (κE E) i) ∧ ysm.length = rows.length ∧
      Fm I L hh m' ((b, bookO dx (rows.map RowH.entry) nb lam) :: (ma, listO ysm km) :: (rows.map RowH.led ++ ((dx, dictOf [] 0) :: rest))) ∧ (∀ p ∈ ((b, bookO dx (rows.map RowH.entry) nb lam) :: (ma, listO ysm km) :: (rows.map RowH.led ++ ((dx, dictOf [] 0) :: rest))), p.1 ≠ It)) hst ?_ ?_ ?_ ?_) ?_
  · exact ⟨m, [], [], k, 0, fun _ _ => rfl, .nil, rfl, F.pure k1, fun p hp q => by have := (F.mus p hp).1; rw [q, nIt] at this; cases this⟩
  · rintro i hh h' ⟨m', rows, ysm, km, nb, hm', hr, hy, F', hIt⟩ hk
    exact ⟨m', rows, ysm, km, nb, hm', hr, hy, F'.other hk (fun q => LIt (List.mem_singleton.mp q)) (fun x hx => by rw [List.mem_singleton.mp hx]; exact IIt) (fun p hp q => hIt p hp (List.mem_singleton.mp q)), hIt⟩
  · rintro i v hh tk1 E1 hi ⟨tv, rfl⟩ ⟨m', rows, ysm, km, nb, hm', hr, hy, F', hIt⟩ hsti
    have ei : (0 : Int) + (i : Int) * 1 = (i : Int) := by omega
    rw [ei]
    obtain ⟨oI, hoI⟩ : ∃ o, hh.get? It = some o := ⟨_, hsti⟩
    have Fi := (F'.add hoI (Ne.symm LIt) IIt (fun hm => by obtain ⟨p, hp, e⟩ := List.mem_map.mp hm; exact hIt p hp e)).perm ((List.Perm.swap _ _ _).trans ((List.Perm.swap _ _ _).cons _))
    clear F'
    refine stL Fi (fun h2 F2 => ?_) rfl rfl
    clear Fi
    obtain ⟨x, hx, Lx⟩ := hls.2 i hi
    have mem : E.getD i [] ∈ E := by rw [List.getD_eq_getElem?_getD, List.getElem?_eq_getElem hi]; exact List.getElem_mem _
    have hm2 : ∀ y, y ≠ Str.ofString "k" → (fun y => if y = Str.ofString "k" then some (Value.int (i : Int) tv) else m' y) y = m y := fun y hy => (if_neg hy).trans (hm' y hy)
    have mk2 : (fun y => if y = Str.ofString "k" then some (Value.int (i : Int) tv) else m' y) (Str.ofString "k") = some (Value.int (i : Int) tv) := if_pos rfl
    generalize (fun y => if y = Str.ofString "k" then some (Value.int (i : Int) tv) else m' y) = m2 at F2 hm2 mk2
    replace F2 : Fm I L h2 m2 ((b, bookO dx (rows.map RowH.entry) nb lam) :: (ma, listO ysm km) :: (It, oI) :: (rows.map RowH.led ++ ((dx, dictOf [] 0) :: rest))) := F2
    have G2 := G.keeps F2.keep
    walk_at "m"
    refine wpAny_Expr ?_
    walk_at "mMeth"
    refine PyProof.Rows.Subscript_ ?_
    refine ldCell (c := L + 1) rfl (F2.keep _ _ hob) dob ?_ rfl rfl rfl
    walk_at "mCall"
    walk_at "mG"
    refine callWith_K (K := K₀ w) (h₀ := h2) G2.kin (by exact rfl) ?_ rfl rfl
    refine wpAny_items_cons ?_ rfl
    refine PyProof.Rows.Subscript_ ?_
    refine ldCell (c := L + 2) rfl (F2.keep _ _ hol) dol ?_ rfl rfl rfl
    walk_at "mL"
    refine itemL (isListO (F2.keep _ _ hla)) (by simpa using hx) (by omega) ?_
    refine wpAny_items_nil ⟨G2.kin, ?_⟩
    show wpAny _ _ (call (.ref 154) [.ref x]) _ _ _
    refine wpAny_call (spelled_spec w mg mb (E.getD i []) x _ h2 g d _ os _ G2 rm.le (Lx.keeps F2.keep) (hnb _ mem) fun t4 h4 tk4 k4 => ?_)
    have F4 := F2.pure k4
    have G4 := G.keeps F4.keep
    clear F2
    try dsimp only
    refine item65 G4.kin (F4.get (.head _)) rfl ?_
    have hne : b ≠ ma := fun q => (List.nodup_cons.mp F4.nd).1 (q ▸ .head _)
    have hrl : rows.length ≤ 10 := by rw [hr.length]; exact Nat.le_trans (rowsN_le _ _) (by omega)
    have Ima := (F4.mus (ma, listO ysm km) (by simp)).2.2
    refine look_filling (I := I) (es := rows.map RowH.entry) G Ima rm.le (F4.get (.head _)) (F4.get (a := dx) (o := dictOf [] 0) (by simp)) b65 (all_entry rows) rfl (let ⟨a, b, c, d, e⟩ := B.fnl; ⟨a, b, c, d, F4.keep _ _ e⟩) F4.keep B.makes (F4.get (a := ma) (o := listO ysm km) (by simp)) (by omega) (by rw [List.length_map]; omega) hne ?_ ?_
    · intro v hv
      obtain ⟨pre, r, post, p, rfl, rk, rfl, pm, pk, ri, hup⟩ := findR_some hr (rowsN_keys _ _) hv
      have F5 : Fm I L h4 m2 (([(b, bookO dx ((pre ++ r :: post).map RowH.entry) nb lam), (ma, listO ysm km), (It, oI)] ++ pre.map RowH.led) ++ (r.addr, listO r.items r.cap) :: (post.map RowH.led ++ ((dx, dictOf [] 0) :: rest))) := by simpa [RowH.led] using F4
      clear F4
      have hil : r.items.length ≤ 11 := by rw [ri.length]; exact Nat.le_trans (rowsN_row_len _ pm) (by omega)
      refine getMethod_append_N F5.mus (List.mem_append_right _ (.head _)) ?_
      refine callWith_method1 ?_
      refine wpAny_items_cons ?_ rfl
      walk_at "mL"
      refine wpAny_items_nil ?_
      have hsz : r.items.toArray.size ≤ sizeLine := by rw [List.size_toArray, sizeLine_eq]; omega
      refine append_at (hsz := hsz) (F5.get (List.mem_append_right _ (.head _))) fun h6 hs6 hl6 => ?_
      have e2 : r.items.toArray.push (Value.int (i : Int) tv) = (r.items ++ [Value.int (i : Int) tv]).toArray := by simp
      rw [e2] at hl6
      have F6 := F5.upd hs6 hl6
      clear F5
      try dsimp only
      walk_at "m"
      have F7 : Fm I L h6 m2 ([(b, bookO dx ((pre ++ { r with items := r.items ++ [Value.int (i : Int) tv], cap := r.cap + 1 } :: post).map RowH.entry) nb lam), (ma, listO ysm km)] ++ (It, oI) :: (((pre ++ { r with items := r.items ++ [Value.int (i : Int) tv], cap := r.cap + 1 } :: post).map RowH.led) ++ ((dx, dictOf [] 0) :: rest))) := by simpa [RowH.led, RowH.entry] using F6
      clear F6
      refine ⟨h6, _, rfl, ⟨m2, pre ++ { r with items := r.items ++ [Value.int (i : Int) tv], cap := r.cap + 1 } :: post, ysm, km, nb, hm2, ?_, by simpa using hy, F7.del, (F7.perm List.perm_middle).nd_head⟩, ?_⟩
      · have han : (rowsN (κE E) i).any (fun r => r.1 == κE E i) = true := List.any_eq_true.mpr ⟨p, pm, (beq_iff_eq (a := p.1) (b := κE E i)).mpr pk⟩
        rw [rowsN_succ, fillStep, if_pos han]
        exact hup { r with items := r.items ++ [Value.int (i : Int) tv], cap := r.cap + 1 } (fun l => l ++ [(i : Int)]) rk (ints_snoc ri)
      · intro c hc o e
        rw [List.mem_singleton.mp hc] at e ⊢
        rw [hoI] at e; cases e
        exact F7.get (by simp)
    · intro hn T t1 t2 hsh n' n2 h5 tk5 k5 ema nT eT eb
      have F5 := F4.upd2 k5 eb ema
      have F6 := F5.add eT (fun q => by obtain ⟨o, _, _, e, _⟩ := F4.ns; rw [← q, nT] at e; cases e) (isNone_of fun o e => by have := F4.keep _ _ e; rw [nT] at this; cases this) (fun hm => by
        have hm : T ∈ (((b, bookO dx (rows.map RowH.entry) nb lam) :: (ma, listO ysm km) :: (It, oI) :: (rows.map RowH.led ++ ((dx, dictOf [] 0) :: rest))).map (·.1)) := hm
        obtain ⟨p, hp, e⟩ := List.mem_map.mp hm
        have := (F4.mus p hp).1
        rw [e, nT] at this; cases this)
      clear F4 F5
      refine getMethod_append_N F6.mus (.head _) ?_
      refine callWith_method1 ?_
      refine wpAny_items_cons ?_ rfl
      walk_at "mL"
      refine wpAny_items_nil ?_
      refine append_at (F6.get (.head _)) (fun h6 hs6 hl6 => ?_) (hsz := by rw [sizeLine_eq]; simp)
      have e2 : ([Value.int (ysm.length : Int) t1] : List Value).toArray.push (Value.int (i : Int) tv) = [Value.int (ysm.length : Int) t1, Value.int (i : Int) tv].toArray := by simp
      rw [e2] at hl6
      have F7 := Fm.upd (pre := []) F6 hs6 hl6
      clear F6
      try dsimp only
      walk_at "m"
      have e3 : rows.map RowH.entry ++ [⟨hsh, .str (tx (spellL (normL (E.getD i [])))) t2, .ref T⟩] = (rows ++ [RowH.mk (spellL (normL (E.getD i []))) hsh t2 T [Value.int (ysm.length : Int) t1, Value.int (i : Int) tv] (0 + 1)]).map RowH.entry := by simp [RowH.entry]
      rw [e3] at F7
      have F8 : Fm I L h6 m2 ([(b, bookO dx ((rows ++ [RowH.mk (spellL (normL (E.getD i []))) hsh t2 T [Value.int (ysm.length : Int) t1, Value.int (i : Int) tv] (0 + 1)]).map RowH.entry) n2 lam), (ma, listO (ysm ++ [Value.int (ysm.length : Int) t1]) n')] ++ (It, oI) :: (((rows ++ [RowH.mk (spellL (normL (E.getD i []))) hsh t2 T [Value.int (ysm.length : Int) t1, Value.int (i : Int) tv] (0 + 1)]).map RowH.led) ++ ((dx, dictOf [] 0) :: rest))) := by
        refine F7.perm ?_
        have e4 : ∀ (R : RowH) (X : Led), (rows ++ [R]).map RowH.led ++ X = rows.map RowH.led ++ (R.led :: X) := fun R X => by simp
        rw [e4]
        exact ((List.perm_middle (l₁ := (b, _) :: (ma, _) :: (It, oI) :: rows.map RowH.led)).symm)
      clear F7
      refine ⟨h6, _, rfl, ⟨m2, rows ++ [RowH.mk (spellL (normL (E.getD i []))) hsh t2 T [Value.int (ysm.length : Int) t1, Value.int (i : Int) tv] (0 + 1)], _, n', n2, hm2, ?_, by simpa using hy, F8.del, (F8.perm List.perm_middle).nd_head⟩, ?_⟩
      · have hn' : findR rows (spellL (normL (E.getD i []))) = none := hn
        rw [findR_none hr] at hn'
        rw [rowsN_succ, fillStep, if_neg (by rw [hn']; decide)]
        refine hr.snoc rfl ?_
        have e5 : (ysm.length : Int) = ((rowsN (κE E) i).length : Int) := by rw [hy, hr.length]
        rw [e5]
        exact .cons _ _ (.cons _ _ .nil)
      · intro c hc o e
        rw [List.mem_singleton.mp hc] at e ⊢
        rw [hoI] at e; cases e
        exact F8.get (by simp)
  · rintro hh tk1 ⟨m', rows, ysm, km, nb, hm', hr, hy, F', hIt⟩
    exact ⟨rfl, hh, m', rows, ysm, km, nb, tk1, rfl, hm', hr, hy, F'⟩
  · rintro r s' ⟨rfl, h', m', rows, ysm, km, nb, tk', rfl, hm', hr, hy, F'⟩
    exact hret h' m' rows ysm km nb tk' hm' hr hy F'

section
variable {prog : Program} {w : World} {A : Around} {E : Value → Shared → Prop} {g : Array GenState} {d : Drawn} {os : OsState} {env : Env}
/-- the places that pass a test -/
theorem comp_pick {iter test : Expr} {x : Str} {px px2 : Pos} {scope : Scope} {cl : List (Str × Addr)} {pos : Pos} {Q : Value → Shared → Prop} {s : Shared} (hh : A.handled = none)
    (hclos : closureFor scope env = pure cl) (hcell : ∀ y ∈ scope.names, y.2 ≠ .cell) (hkind : scope.kind = .function)
    (hnames : ∀ y ∈ scope.names, y.2 = .local → scope.names.lookup y.1 = some .local) (hx : scope.names.lookup x = some .local) (hxd : (x == ("__debug__" : Str)) = false)
    (hs : ∀ x, foldedSetIterable iter env x = pure x)
    (h : wpAny (model prog w) A (eval iter env) (fun xv s₁ => ∃ (h : Heap) (tk : Nat) (r : Addr) (n : Nat) (t u v : Tok) (p : Nat → Bool) (I0 : Heap) (L : Addr) (m : Str → Option Value) (mu : Led), s₁ = ⟨h, g, d, tk, os⟩ ∧ xv = .ref r ∧ IsRange h r 0 (n : Nat) 1 t u v ∧ n ≤ 1000 ∧ Fm I0 L h m mu ∧
      (∀ C i ti I h₁ tk₁ E' m₁, i < n → I0.StaysIn I → I.StaysIn h₁ → h₁.Ns C m₁ → m₁ x = some (.int (i : Nat) ti) →
        wpAny (model prog w) A (PySem.isTrue test (compEnvC scope cl C env) (eval test (compEnvC scope cl C env))) (fun ok s' => ∃ h' tk', s' = ⟨h', g, d, tk', os⟩ ∧ h₁.StaysIn h' ∧ ok = p i) E' ⟨h₁, g, d, tk₁, os⟩) ∧
      (∀ D ys I h' tk' k, IntsAre ys (((List.range n).filter p).map fun (m : Nat) => (m : Int)) → I0.StaysIn I → h.StaysIn h' → Fm I L h' m ((D, listO ys k) :: mu) → Q (.ref D) ⟨h', g, d, tk', os⟩)) E s) :
    wpAny (model prog w) A (eval (.ListComp (.Name x px2) [⟨.Name x px, iter, [test], 0⟩] scope pos) env) Q E s := by
  refine comp_range (g := g) (d := d) (os := os) hh hclos hcell hkind hnames hx hs (wpAny_mono h (fun xv s₁ h₁ => ?_) fun _ _ e => e)
  obtain ⟨h, tk, r, n, t, u, v, p, I0, L, m, mu, rfl, rfl, hr, hn, F, ht, hq⟩ := h₁
  refine ⟨h, tk, r, n, t, u, v, fun i ys I => IntsAre ys (((List.range i).filter p).map fun (m : Nat) => (m : Int)), I0, L, m, mu, rfl, rfl, hr, hn, F, .nil, ?_, ?_⟩
  · intro C i ti ys I h₁ tk₁ E' m₁ hi hys hI hI1 hns hm
    refine turn_if (wpAny_mono (ht C i ti I h₁ tk₁ E' m₁ hi hI hI1 hns hm) (fun ok s' ho => ?_) fun _ _ e => e)
    obtain ⟨h', tk', rfl, k, rfl⟩ := ho
    refine ⟨h', tk', rfl, k, ?_⟩
    have e : ((List.range (i + 1)).filter p).map (fun (m : Nat) => (m : Int)) = ((List.range i).filter p).map (fun (m : Nat) => (m : Int)) ++ if p i = true then [(i : Int)] else [] := by
      rw [List.range_succ, List.filter_append, List.map_append]
      congr 1
      cases hp : p i <;> simp [List.filter_cons, hp]
    by_cases hp : p i = true
    · rw [if_pos hp]
      rw [if_pos hp] at e
      refine ldNs (hns.keeps k) hm ?_ hkind (lookup_relabel_local hx) hxd
      refine elt_pure (Inv := fun ys mu I => mu = [] ∧ IntsAre ys (((List.range (i + 1)).filter p).map fun (m : Nat) => (m : Int))) (fun _ _ e => e) fun I' _ _ => ⟨rfl, ?_⟩
      rw [e]
      exact ints_snoc hys
    · rw [if_neg hp]
      rw [if_neg hp, List.append_nil] at e
      intro I' _
      refine ⟨rfl, ?_⟩
      show IntsAre ys (((List.range (i + 1)).filter p).map fun (m : Nat) => (m : Int))
      rw [e]
      exact hys
  · intro D ys I h' tk' k hys hI kh F' _
    exact hq D ys I h' tk' k hys hI kh F'
end
def intV : Value → Int | .int n _ => n | _ => 0
theorem ints_intV {vs : List Value} {ns : List Int} (H : IntsAre vs ns) : vs.map intV = ns := by
  induction H with
  | nil => rfl
  | cons n t _ ih => rw [List.map_cons, ih]; rfl
def colsV (h : Heap) : Value → List Int
  | .ref a => (match h.get? a with | some ⟨_, _, .seq items _, _⟩ => items.toList.map intV | _ => [])
  | _ => []
theorem colsV_of {h : Heap} {a : Addr} {vs : List Value} {k : Nat} {ns : List Int} (e : h.get? a = some (listO vs k)) (H : IntsAre vs ns) : colsV h (.ref a) = ns := by
  simp only [colsV, e]; simpa using ints_intV H
theorem least {p : Nat → Prop} [DecidablePred p] : ∀ k, p k → ∃ j, j ≤ k ∧ p j ∧ ∀ m, m < j → ¬ p m := by
  intro k
  induction k using Nat.strongRecOn with
  | ind k ih =>
    intro hk
    by_cases h : ∃ m, m < k ∧ p m
    · obtain ⟨m, hm, pm⟩ := h
      obtain ⟨j, h1, h2, h3⟩ := ih m hm pm
      exact ⟨j, by omega, h2, h3⟩
    · exact ⟨k, Nat.le_refl _, hk, fun m hm pm => h ⟨m, hm, pm⟩⟩
section
variable {prog : Program} {w : World} {A : Around} {E : Value → Shared → Prop} {s : Shared}
theorem index_rows {l c : Addr} {vs : List Value} {n k : Nat} {Es : List (List Nat)} {Q : Value → Shared → Prop} {j kc : Nat} {us : List Value} (hl : s.heap.get? l = some (listO vs kc)) (H : ColsIn s.heap vs Es n) (hc : s.heap.get? c = some (listO us k)) {ns : List Int} (hns : IntsAre us ns) (hu : A.units + 10 < cLine) (hn : n ≤ 1000)
    (hj : j < n) (hit : colsL (Es.getD j []) = ns) (hno : ∀ m, m < j → colsL (Es.getD m []) ≠ ns) (h : Q (.int (j : Nat) s.toks) { s with toks := s.toks + 1 }) :
    wpAny (model prog w) A (call (.builtin "list.index") [.ref l, .ref c]) Q E s := by
  have hlen : vs.toArray.size = n := by rw [List.size_toArray, H.1]
  have ev : ∀ m (hm : m < vs.toArray.size), colsV s.heap vs.toArray[m] = colsL (Es.getD m []) := fun m hm => by
    obtain ⟨cm, um, km, e1, e2, e3⟩ := H.2 m (by omega)
    have : vs.toArray[m] = .ref cm := by
      have h2 : m < vs.length := by simpa using hm
      have : vs[m]? = some vs[m] := List.getElem?_eq_getElem h2
      rw [e1] at this
      simpa using (Option.some.inj this).symm
    rw [this]; exact colsV_of e2 e3
  refine call_meets PySem.F.slot_list_index ⟨_, hl, rfl⟩ PySem.F.entry_list_index (PySem.F.args_list_index_2 _ _)
    (SeqAt.list_indexAt l vs.toArray kc none #[] (.ref c) (fun v => decide (colsV s.heap v = ns)) j (by omega) (by omega) ?_ ?_) ⟨hl, fun y hy => ?_, h⟩
  · rw [ev]; exact decide_eq_true hit
  · intro m hm hlt
    rw [ev]; exact decide_eq_false (hno m hlt)
  · obtain ⟨m, hm, rfl⟩ := Array.mem_iff_getElem.mp hy
    rw [ev m hm]
    obtain ⟨cm, um, km, e1, e2, e3⟩ := H.2 m (by omega)
    have : vs.toArray[m] = .ref cm := by
      have h2 : m < vs.length := by simpa using hm
      have : vs[m]? = some vs[m] := List.getElem?_eq_getElem h2
      rw [e1] at this
      simpa using (Option.some.inj this).symm
    rw [this, ← eqv_dI]
    exact SeqAt.eqAt_reads _ _ _ _ _ _ _ _ (reads_dI e2 rfl rfl e3) (reads_dI hc rfl rfl hns) (lay_dI _) (lay_dI _) (by have := dep_dI (colsL (Es.getD m [])); show A.units + 1 + _ < _ ; omega)
end

abbrev cellE : Obj := { cls := .type "cell", data := .cell none }
section
variable {M : Model} {A : Around} {E : Value → Shared → Prop} {s : Shared} {env : Env}
theorem newEnv1 {scope : Scope} {globals : Addr} {cl : List (Str × Addr)} {qual : Str} {x : Str} {Q : Env → Shared → Prop} (hpc : ∀ h, pushCells h scope.names = h.push cellE) (hcf : ∀ k, cellsFrom k scope.names cl = (x, k) :: cl)
    (h : Q { scope := scope, locals := s.heap.objs.size, globals := globals, cells := (x, s.heap.objs.size + 1) :: cl, qual := qual, func := none, code := env.code, frame := env.frame, builtins := env.builtins } { s with heap := (s.heap.push { cls := .type "dict", data := .dict #[] }).push cellE }) :
    wpAny M A (newFunctionEnv scope globals cl [] qual none .none (some env)) Q E s := by
  simp only [newFunctionEnv, Option.isSome_some, if_true]
  refine wpAny_bind (wpAny_alloc ?_)
  refine wpAny_bind (wpAny_layCells _ (fun name kind cells => by cases hkc : kind == NameKind.cell <;> simp [hkc]) _ _ _ _ ?_)
  rw [show ({ s with heap := s.heap.push { cls := .type "dict", data := .dict #[] } } : Shared).heap.objs.size = s.heap.objs.size + 1 from Heap.size_push .., hcf, hpc]
  exact wpAny_bind (wpAny_pure (wpAny_pure h))
end
section
variable {prog : Program} {w : World} {A : Around} {E : Value → Shared → Prop} {g : Array GenState} {d : Drawn} {os : OsState} {env : Env}
/-- a comprehension over a range whose name is a cell, stored under a name of the frame; nothing is turned -/
theorem comp_cell {elt iter : Expr} {x y : Str} {px py : Pos} {ifs : List Expr} {scope : Scope} {cl : List (Str × Addr)} {pos spos : Pos} {Q : Flow → Shared → Prop} {s : Shared} (hh : A.handled = none)
    (hsw : swapsWith (.ListComp elt [⟨.Name x px, iter, ifs, 0⟩] scope pos) (some (.Name y py)) spos.line env = pure true)
    (hclos : closureFor scope env = pure cl) (hkind : scope.kind = .function) (hpc : ∀ h, pushCells h scope.names = h.push cellE) (hcf : ∀ k, cellsFrom k scope.names cl = (x, k) :: cl)
    (hnames : ∀ z ∈ scope.names, z.2 = .local → scope.names.lookup z.1 = some .local) (hx : (relabel scope env).names.lookup x = some .cell)
    (hy : env.kindOf y = some .local) (hek : env.scope.kind = .function)
    (hs : ∀ x, foldedSetIterable iter env x = pure x)
    (h : wpAny (model prog w) A (eval iter env) (fun xv s₁ => ∃ (h : Heap) (tk : Nat) (r : Addr) (n : Nat) (t u v : Tok) (Inv : Nat → List Value → Heap → Prop) (I0 : Heap) (m : Str → Option Value) (mu : Led), s₁ = ⟨h, g, d, tk, os⟩ ∧ xv = .ref r ∧ IsRange h r 0 (n : Nat) 1 t u v ∧ n ≤ 1000 ∧ Fm I0 env.locals h m mu ∧ Inv 0 [] I0 ∧
      (∀ C i ti ys I h₁ tk₁ E' m₁, i < n → h.get? C = none → Inv i ys I → I0.StaysIn I → I.StaysIn h₁ → h₁.Ns C m₁ → h₁.get? (C + 1) = some (cellO (some (.int (i : Nat) ti))) → Turn prog w A E' g d os (compEnvC scope ((x, C + 1) :: cl) C env) elt ifs (fun ys mu I => mu = [] ∧ Inv (i + 1) ys I) ys [] I h₁ tk₁) ∧
      (∀ D ys I h' tk' k, Inv n ys I → I0.StaysIn I → Fm I env.locals h' (fun z => if z = y then some (.ref D) else m z) ((D, listO ys k) :: mu) → ys.length ≤ n → Q .next ⟨h', g, d, tk', os⟩)) E s) :
    wpAny (model prog w) A (exec (.Assign [.Name y py] (.ListComp elt [⟨.Name x px, iter, ifs, 0⟩] scope pos) spos) env) Q E s := by
  rw [exec_Assign_Name_used _ _ _ _ hsw]
  refine wpAny_bind (wpAny_standAt (wpAny_bind ?_))
  show wpAny _ A (do let _ ← comprehension (.ListComp elt [⟨.Name x px, iter, ifs, 0⟩] scope pos) scope env _ (newList []) false (eval iter env) (some (assign (.Name y py) env))) _ _ s
  refine wpAny_bind (wpAny_mono (wpAny_comprehension_free (use := some (assign (.Name y py) env)) (Q := fun _ s' => Q .next s') rfl hs hclos hkind hnames
    (wpAny_mono h (fun xv s₁ h₁ => ?_) fun _ _ e => e)) (fun _ s' hq => wpAny_pure (wpAny_pure hq)) fun _ _ e => e)
  obtain ⟨h, tk, r, n, t, u, v, Inv, I0, m, mu, rfl, rfl, hr, hz, F, hi0, turn, fin⟩ := h₁
  refine iter_range_obj (n := n) hr (by rw [rangeSize_one]; split <;> omega) (small_one (by omega) (by omega) (by omega) (by omega)) fun It h6 k6 l6 hst => ?_
  have hIt : h.get? It = none := isNone_of fun o e => absurd (Heap.lt_size e) (Nat.not_lt.mpr l6)
  have nIt : ∀ b o, h.get? b = some o → b ∉ [It] := fun b o e hm => by rw [List.mem_singleton.mp hm, hIt] at e; cases e
  have W := Walks.range (prog := prog) (w := w) hh It 0 1 n
  have hItlt := Heap.lt_size hst
  refine wpAny_newObj_type (newEnv1 hpc hcf ?_)
  dsimp only
  generalize hH2 : h6.push { cls := .type "list", dict := none, data := .seq ([] : List Value).toArray } = H2
  have hC : H2.objs.size = h6.objs.size + 1 := by rw [← hH2, Heap.size_push]
  generalize hH3 : H2.push { cls := .type "dict", data := .dict #[] } = H3
  have hC3 : H3.objs.size = H2.objs.size + 1 := by rw [← hH3, Heap.size_push]
  have k1 : ∀ b o, H2.get? b = some o → (H3.push cellE).get? b = some o := fun b o e => Heap.get?_push_of_some _ (hH3 ▸ Heap.get?_push_of_some _ e)
  have old : ∀ b o, h6.get? b = some o → (H3.push cellE).get? b = some o := fun b o e => k1 b o (hH2 ▸ Heap.get?_push_of_some _ e)
  have hacc : (H3.push cellE).PlainList h6.objs.size #[] := ⟨_, k1 _ _ (hH2 ▸ Heap.get?_push_size _ rfl)⟩
  have hns : (H3.push cellE).Ns H2.objs.size (fun _ => none) := by rw [← hH3]; exact (Heap.Ns.new H2 (.type "dict")).push _
  have hcell : (H3.push cellE).get? (H2.objs.size + 1) = some (cellO none) := by rw [← hC3]; exact Heap.get?_push_size _ rfl
  generalize H3.push cellE = h₁ at *
  have lt6 : h6.objs.size < H2.objs.size := by omega
  have lt7 : h6.objs.size < H2.objs.size + 1 := by omega
  have below : ∀ b o, h6.get? b = some o → b ≠ h6.objs.size ∧ b ≠ H2.objs.size ∧ b ≠ H2.objs.size + 1 := fun b o e => ⟨Nat.ne_of_lt (Heap.lt_size e), Nat.ne_of_lt (Nat.lt_trans (Heap.lt_size e) lt6), Nat.ne_of_lt (Nat.lt_trans (Heap.lt_size e) lt7)⟩
  have fresh : ∀ a, h6.objs.size ≤ a → h6.get? a = none := fun a ha => isNone_of fun o' e => absurd (Heap.lt_size e) (Nat.not_lt.mpr ha)
  have freshI : ∀ a, h6.objs.size ≤ a → I0.get? a = none := fun a ha => isNone_of fun o' e => by have := k6 _ _ (F.keep _ _ e); rw [fresh a ha] at this; cases this
  have hDC : h6.objs.size ≠ H2.objs.size := by omega
  have hDC1 : h6.objs.size ≠ H2.objs.size + 1 := by omega
  have hCC1 : H2.objs.size ≠ H2.objs.size + 1 := by omega
  have loop : ∀ (tk₁ : Nat), codeAny (model prog w) A (.compLoop (.ListComp elt [⟨.Name x px, iter, ifs, 0⟩] scope pos) 0 (.ref It) (.ref h6.objs.size) (compEnvC scope ((x, H2.objs.size + 1) :: cl) H2.objs.size env))
        (compPost (model prog w) A E (some (assign (.Name y py) env)) (fun _ s' => Q .next s') (.ref h6.objs.size) H2.objs.size) ⟨h₁, g, d, tk₁, os⟩ := fun tk₁ => by
    refine comp_core (cenv := compEnvC scope ((x, H2.objs.size + 1) :: cl) H2.objs.size env) (hd := [H2.objs.size, H2.objs.size + 1]) (D := h6.objs.size) (I0 := I0) (mu0 := []) (xs := env.locals :: mu.map (·.1)) W
      (fun i h st b hb => by rw [List.mem_singleton.mp hb]; exact ⟨_, st⟩)
      (fun h => (∃ m, h.Ns H2.objs.size m) ∧ ∃ v, h.get? (H2.objs.size + 1) = some (cellO v)) (fun v h => (∃ m, h.Ns H2.objs.size m) ∧ h.get? (H2.objs.size + 1) = some (cellO (some v))) (fun i ys mu I => mu = [] ∧ Inv i ys I)
      ?_ ?_ ?_ ?_ ?_ ?_ ?_ ?_ (old _ _ hst) ⟨⟨_, hns⟩, _, hcell⟩ hacc (fun b o e => old b o (k6 _ _ (F.keep _ _ e))) ⟨rfl, hi0⟩ ?_ ?_ (fun _ hp => nomatch hp) (by rw [sizeLine_eq]; omega)
    · rintro h h' ⟨⟨m, o, es, ep, ho, r⟩, v, hv⟩ hk
      exact ⟨⟨m, o, es, ep, hk _ _ (.head _) ho, r⟩, v, hk _ _ (.tail _ (.head _)) hv⟩
    · rintro h ⟨⟨m, o, es, ep, ho, r⟩, v, hv⟩ b hb
      rcases List.mem_cons.mp hb with rfl | hb
      · exact ⟨o, ho⟩
      · rw [List.mem_singleton.mp hb]; exact ⟨_, hv⟩
    · intro hm
      rcases List.mem_cons.mp hm with q | hm
      · exact hDC q
      · exact hDC1 (List.mem_singleton.mp hm)
    · exact fun hm => Nat.ne_of_gt hItlt (List.mem_singleton.mp hm)
    · intro b hb hf
      have q := List.mem_singleton.mp hf
      rcases List.mem_cons.mp hb with q2 | hb
      · exact Nat.ne_of_gt (Nat.lt_trans hItlt lt6) (q2.symm.trans q)
      · exact Nat.ne_of_gt (Nat.lt_trans hItlt lt7) ((List.mem_singleton.mp hb).symm.trans q)
    · rintro v h₂ tk₂ Q2 ⟨⟨m, hn⟩, v₀, hv₀⟩ hQ
      refine wpAny_assign_Name ?_
      have hkx : (compEnvC scope ((x, H2.objs.size + 1) :: cl) H2.objs.size env).kindOf x = some .cell := hx
      have hkk : (compEnvC scope ((x, H2.objs.size + 1) :: cl) H2.objs.size env).scope.kind = .function := hkind
      unfold storeName
      simp only [hkx, hkk]
      refine wpAny_bind (wpAny_cellOf (c := H2.objs.size + 1) (by show List.lookup x ((x, _) :: cl) = _; simp [List.lookup_cons]) ?_)
      unfold cellSet
      refine wpAny_bind (wpAny_load hv₀ ?_)
      refine wpAny_update hv₀ ?_
      have hs2 := Heap.SameBut.update h₂ (H2.objs.size + 1) (fun o => { o with data := .cell (some v) })
      have e2 := Heap.get?_update_self (fun o => { o with data := .cell (some v) }) hv₀ rfl
      refine hQ _ _ ⟨⟨m, hn.sameBut hs2 hCC1⟩, _, e2⟩ ⟨⟨m, hn.sameBut hs2 hCC1⟩, e2⟩ fun b o hb e => (hs2.2 b (fun q => hb (q ▸ .tail _ (.head _)))).trans e
    · rintro i v ys mu I h₂ tk₂ hi ⟨tv, rfl⟩ ⟨rfl, hv2⟩ hII hI _ _ ⟨⟨m₁, hn⟩, hc⟩
      have e : (0 : Int) + (i : Int) * 1 = (i : Int) := by omega
      rw [e] at hc
      exact turn H2.objs.size i tv ys I h₂ tk₂ _ m₁ hi (isNone_of fun o e => (below _ o (k6 _ _ e)).2.1 rfl) hv2 hII hI hn hc
    · rintro ys mu' I h₂ tk₂ ⟨rfl, hys⟩ hII hI ⟨⟨mC, hnC⟩, vc, hvc⟩ ⟨kD, hD⟩ hl _ _ hxx hk
      have kk : ∀ b o, h.get? b = some o → h₂.get? b = some o := fun b o e => by
        obtain ⟨b1, b2, b3⟩ := below b o (k6 _ _ e)
        refine hk b o b1 (fun hm => ?_) (nIt _ _ e) (by simp) (old b o (k6 _ _ e))
        rcases List.mem_cons.mp hm with q | hm
        · exact b2 q
        · exact b3 (List.mem_singleton.mp hm)
      have nD : h.get? h6.objs.size = none := isNone_of fun o e => absurd (Heap.lt_size (k6 _ _ e)) (Nat.lt_irrefl _)
      have F2 : Fm I env.locals h₂ m ((h6.objs.size, listO ys kD) :: mu) := F.over hI (fun b hb => hxx b (.inr (.inr hb))) kk nD (hxx _ (.inl rfl)) hD
      show wpAny _ A (assign (.Name y py) env (.ref h6.objs.size)) _ _ _
      refine wpAny_assign_Name (wpAny_storeName_local hy F2.ns (fun h₃ hn₃ hs₃ => ?_) (by rw [hek]; rfl))
      have F3 := F2.set hn₃ hs₃
      have nC : ∀ b o, h6.get? b = some o → b ≠ H2.objs.size := fun b o e => (below b o e).2.1
      have LC : env.locals ≠ H2.objs.size := by obtain ⟨oL, _, _, eL, _⟩ := F.ns; exact nC _ _ (k6 _ _ eL)
      have IC : I.get? H2.objs.size = none := hxx _ (.inr (.inl (.head _)))
      refine ⟨mC, ?_, fun h₄ hs4 => ?_⟩
      · exact hnC.sameBut hs₃ (Ne.symm LC)
      · refine fin h6.objs.size ys I h₄ _ kD hys hII (F3.other (wr := [H2.objs.size]) (fun b o hb e => (hs4.2 b (fun q => hb (q ▸ .head _))).trans e) (fun q => LC (List.mem_singleton.mp q)) (fun b hb => by rw [List.mem_singleton.mp hb]; exact IC) (fun p hp q => ?_)) hl
        have q := List.mem_singleton.mp q
        rcases List.mem_cons.mp hp with rfl | hp
        · exact hDC q
        · exact nC _ _ (k6 _ _ (F.mus p hp).1) q
    · rintro b (q | q | q | q)
      · exact freshI _ (Nat.le_of_eq q.symm)
      · rcases List.mem_cons.mp q with q | q
        · exact freshI _ (q ▸ Nat.le_of_lt lt6)
        · exact freshI _ (List.mem_singleton.mp q ▸ Nat.le_of_lt lt7)
      · rw [List.mem_singleton.mp q]; exact isNone_of fun o e => by have := F.keep _ _ e; rw [hIt] at this; cases this
      · exact (F.hidden b q).2
    · intro b hb
      obtain ⟨⟨o, e⟩, e0⟩ := F.hidden b hb
      obtain ⟨b1, b2, b3⟩ := below b o (k6 _ _ e)
      refine ⟨⟨o, old _ _ (k6 _ _ e)⟩, b1, fun hm => ?_, nIt _ _ e, by simp⟩
      rcases List.mem_cons.mp hm with q | hm
      · exact b2 q
      · exact b3 (List.mem_singleton.mp hm)
  exact codeAny_compStart_list (loop _) (W.self 0 _ _ _ (old _ _ hst) (loop _))
end

theorem Fm.apart {I h : Heap} {L : Addr} {m : Str → Option Value} {mu : Led} {p q : Addr × Obj} (F : Fm I L h m mu) (i j : Nat) (hi : mu[i]? = some p) (hj : mu[j]? = some q) (ne : i ≠ j) : p.1 ≠ q.1 := by
  have P := List.pairwise_iff_getElem.mp F.nd
  obtain ⟨li, ei⟩ := List.getElem?_eq_some_iff.mp hi
  obtain ⟨lj, ej⟩ := List.getElem?_eq_some_iff.mp hj
  rcases Nat.lt_or_gt_of_ne ne with h | h
  · have := P i j (by simpa using li) (by simpa using lj) h
    simpa [ei, ej] using this
  · have := P j i (by simpa using lj) (by simpa using li) h
    simpa [ei, ej] using Ne.symm this
def ListsIn (I : Heap) (ys : List Value) (rows : Nat → List Int) (n : Nat) : Prop := ys.length = n ∧ ∀ j, j < n → ∃ T vs k, ys[j]? = some (.ref T) ∧ I.get? T = some (listO vs k) ∧ IntsAre vs (rows j)
theorem ListsIn.snoc {I I' : Heap} {ys vs : List Value} {rows : Nat → List Int} {n k : Nat} {c : Addr} (H : ListsIn I ys rows n) (kk : I.StaysIn I') (hc : I'.get? c = some (listO vs k)) (hv : IntsAre vs (rows n)) : ListsIn I' (ys ++ [.ref c]) rows (n + 1) := by
  refine ⟨by rw [List.length_append, H.1]; rfl, fun j hj => ?_⟩
  by_cases q : j < n
  · obtain ⟨y, vs', k', e, hy, r⟩ := H.2 j q
    exact ⟨y, vs', k', by rw [List.getElem?_append_left (by rw [H.1]; exact q)]; exact e, kk _ _ hy, r⟩
  · have : j = n := by omega
    subst this
    exact ⟨c, vs, k, by rw [List.getElem?_append_right (by rw [H.1]; exact Nat.le_refl _), H.1]; simp, hc, hv⟩
theorem ListsIn.keeps {I I' : Heap} {ys : List Value} {rows : Nat → List Int} {n : Nat} (H : ListsIn I ys rows n) (k : I.StaysIn I') : ListsIn I' ys rows n := ⟨H.1, fun j hj => let ⟨c, vs, kk, e, hx, r⟩ := H.2 j hj; ⟨c, vs, kk, e, k _ _ hx, r⟩⟩
/-- what stands behind the freezing -/
structure BaseC (w : World) (mg mb : Str → Option Value) (I : Heap) (L : Addr) (E : List (List Nat)) (b lam ma la ca pa fz : Addr) (rows : List RowH) : Prop where
  base : BaseA w mg mb I L E b lam ma la ca pa
  book : ∃ dx as na nb, I.get? b = some (bookO dx (rows.map RowH.entry) nb lam) ∧ I.get? dx = some (dictOf as na) ∧ getL "_frozen" as = some (some (.ref fz)) ∧ getL "values" as = some none
  fnz : FnAt fz I
  frz : ∀ x t, Makes w I fz [.str x t] ma 6 60
  rowsA : RowsAre rows (rowsN (κE E) E.length)
  rowsI : ∀ r ∈ rows, I.get? r.addr = some (listO r.items r.cap)
  t57 : ∃ ps, I.get? 57 = some (tabObj ps)
  t163 : ∃ ps, I.get? 163 = some (tabObj ps)
theorem BaseC.keeps {w : World} {mg mb : Str → Option Value} {I I' : Heap} {L : Addr} {E : List (List Nat)} {b lam ma la ca pa fz : Addr} {rows : List RowH} (B : BaseC w mg mb I L E b lam ma la ca pa fz rows) (k : I.StaysIn I') : BaseC w mg mb I' L E b lam ma la ca pa fz rows :=
  ⟨B.base.keeps k, let ⟨dx, as, na, nb, e1, e2, r⟩ := B.book; ⟨dx, as, na, nb, k _ _ e1, k _ _ e2, r⟩, let ⟨a, b, c, d, e⟩ := B.fnz; ⟨a, b, c, d, k _ _ e⟩, fun x t => (B.frz x t).keeps k, B.rowsA, fun r hr => k _ _ (B.rowsI r hr),
   let ⟨ps, e⟩ := B.t57; ⟨ps, k _ _ e⟩, let ⟨ps, e⟩ := B.t163; ⟨ps, k _ _ e⟩⟩
set_option maxHeartbeats 4000000 in
theorem pieceC (w : World) (mg mb : Str → Option Value) :
  ∀ (E : List (List Nat)) (b dx lam ma la ca pa L : Addr) (A : Around) (I h : Heap) (m : Str → Option Value) (g : Array GenState) (d : Drawn) (tk : Nat) (os : OsState) (o : Nat → Obj) (rows : List RowH) (ysm : List Value) (km nb : Nat) (ps : Array Value) (Q : Flow → Shared → Prop) (Er : Value → Shared → Prop),
    BaseA w mg mb I L E b lam ma la ca pa → Rm A 12 120 → E.length ≤ 10 → (∀ l ∈ E, IsLead l) → CodeHd I 61 57 → RowsAre rows (rowsN (κE E) E.length) → (∀ i, ∃ v, (o i).data = .cell v) →
    Fm I L h m ((b, bookO dx (rows.map RowH.entry) nb lam) :: (ma, listO ysm km) :: (rows.map RowH.led ++ [(dx, dictOf [] 0), (163, tabObj ps), (57, tabObj #[]), (L + 5, o 5), (L + 6, o 6), (L + 7, o 7), (L + 8, o 8)])) →
    (∀ (I' h' : Heap) m' fz cla cys ck tk', I.StaysIn I' → (∀ x, x ≠ Str.ofString "classes" → m' x = m x) → m' (Str.ofString "classes") = some (.ref cla) → I'.get? cla = some (listO cys ck) → ListsIn I' cys (fun c => ((rowsN (κE E) E.length).getD c ([], [])).2) (rowsN (κE E) E.length).length →
      BaseC w mg mb I' L E b lam ma la ca pa fz rows → Fm I' L h' m' [(ma, listO ysm km), (L + 6, o 6), (L + 7, o 7), (L + 8, o 8)] →
      wpAny (model PySem.Challenge.rw_in0106_01.row.prog w) A (execs ((bodyOf (K₀ w) 166).drop 9) (ev w L)) Q Er ⟨h', g, d, tk', os⟩) →
    wpAny (model PySem.Challenge.rw_in0106_01.row.prog w) A (execs ((bodyOf (K₀ w) 166).drop 6) (ev w L)) Q Er ⟨h, g, d, tk, os⟩ := by
  intro E b dx lam ma la ca pa L A I h m g d tk os o rows ysm km nb ps Q Er B rm hn10 hlead C57 hrows ho F hret
  refine' body_is (B := [?s0, ?s1, ?s2, ?s3, ?s4, ?s5, ?s6, ?s7, ?s8, ?s9, ?s10]) (S := ⟨?k, ?n, ?g, ?c, ?m⟩) ?hB ?hS ?_
  case hB => exact rfl
  case hS => exact rfl
  dsimp only [List.drop]
  have G := B.gd
  obtain ⟨mrange, mlen, mtuple, mgetattr, msuper, mlist⟩ := mg_facts G
  obtain ⟨glead, gcolumns, gspelled, gnumbered, glook, gws, gfdd⟩ := mg_own G
  obtain ⟨ob, hob, dob⟩ := B.cb
  have G1 := G.keeps F.keep
  have hbk := F.get (a := b) (o := bookO dx (rows.map RowH.entry) nb lam) (by simp)
  have hdx := F.get (a := dx) (o := dictOf [] 0) (by simp)
  have h57 := F.get (a := 57) (o := tabObj #[]) (by simp)
  have i57 := (F.mus (57, tabObj #[]) (by simp)).2.2
  have idx := (F.mus (dx, dictOf [] 0) (by simp)).2.2
  walk_at "m"
  walk_at "m"
  walk_at "m"
  walk_at "mMeth"
  refine ldCell (c := L + 1) rfl (F.keep _ _ hob) dob ?_ rfl rfl rfl
  have tfn : Looks (model PySem.Challenge.rw_in0106_01.row.prog w) h (typeOf (.ref 62)) (.type "function") := looks_typeIn G1.kin (by exact rfl)
  refine book_method (as := []) (na := 0) G1.kin hbk hdx (fr65 w) tfn (.inl rfl) rfl ?_
  dsimp only
  refine callWith_K0 (K := K₀ w) G1.kin (by exact rfl) ?_
  show wpAny _ _ (call (.ref 62) [.ref b]) _ _ _
  have Fp : Fm I L h m ((b, bookO dx (rows.map RowH.entry) nb lam) :: (ma, listO ysm km) :: ([(dx, dictOf [] 0), (163, tabObj ps), (57, tabObj #[]), (L + 5, o 5), (L + 6, o 6), (L + 7, o 7), (L + 8, o 8)] ++ rows.map RowH.led)) := F.perm ((List.perm_append_comm.cons _).cons _)
  have hLe : ∃ ob, h.get? L = some ob := let ⟨ob, _, _, e, _⟩ := F.ns; ⟨ob, e⟩
  have hkeep : ∀ (p : Addr) (ob : Obj), (p, ob) ∈ [(ma, listO ysm km), (L + 5, o 5), (L + 6, o 6), (L + 7, o 7), (L + 8, o 8)] → h.get? p = some ob := fun p ob hp => F.get (by
    simp only [List.mem_cons, List.not_mem_nil, or_false] at hp
    rcases hp with e | e | e | e | e <;> rw [e] <;> simp)
  refine wpAny_call (freeze_spec w mg mb b dx lam _ [] nb 0 A I h g d tk os _ G rm.le F.keep hbk hdx h57 idx i57 C57 (fun _ h => nomatch h) (by decide) (Fp.apart 2 4 rfl rfl (by decide)) fun fz as' na' ps' h1 tk1 k1 e57 edx sk' hget nfz ffz hfrz => ?_)
  have Fk : Fm I L h m [(ma, listO ysm km), (L + 5, o 5), (L + 6, o 6), (L + 7, o 7), (L + 8, o 8)] := F.sub (.cons _ (.cons_cons _ ((((List.Sublist.refl _).cons _).cons _).cons _ |>.trans (List.sublist_append_right _ _))))
  have F1 := Fk.other (h' := h1) (wr := [57, dx]) (fun x o hx e => k1 x o (fun q => hx (q ▸ .head _)) (fun q => hx (q ▸ .tail _ (.head _))) e) (fun hm => by
      rcases List.mem_cons.mp hm with q | hm
      · exact (F.mus (57, tabObj #[]) (by simp)).2.1 q.symm
      · exact (F.mus (dx, dictOf [] 0) (by simp)).2.1 (List.mem_singleton.mp hm).symm) (fun x hx => by
      rcases List.mem_cons.mp hx with rfl | hx
      · exact i57
      · rw [List.mem_singleton.mp hx]; exact idx) (fun p hp hx => by
      have key : p.1 ≠ 57 ∧ p.1 ≠ dx := by
        simp only [List.mem_cons, List.not_mem_nil, or_false] at hp
        rcases hp with rfl | rfl | rfl | rfl | rfl
        · exact ⟨Fp.apart 1 4 rfl rfl (by decide), Fp.apart 1 2 rfl rfl (by decide)⟩
        · exact ⟨Fp.apart 5 4 rfl rfl (by decide), Fp.apart 5 2 rfl rfl (by decide)⟩
        · exact ⟨Fp.apart 6 4 rfl rfl (by decide), Fp.apart 6 2 rfl rfl (by decide)⟩
        · exact ⟨Fp.apart 7 4 rfl rfl (by decide), Fp.apart 7 2 rfl rfl (by decide)⟩
        · exact ⟨Fp.apart 8 4 rfl rfl (by decide), Fp.apart 8 2 rfl rfl (by decide)⟩
      rcases List.mem_cons.mp hx with q | hx
      · exact key.1 q
      · exact key.2 (List.mem_singleton.mp hx))
  obtain ⟨I2, kI2, F2, hab⟩ := F1.absorb
  have hdxL : dx ≠ L ∧ dx ∉ [(ma, listO ysm km), (L + 5, o 5), (L + 6, o 6), (L + 7, o 7), (L + 8, o 8)].map (·.1) := by
    refine ⟨(Fp.mus (dx, dictOf [] 0) (by simp)).2.1, ?_⟩
    simp only [List.map_cons, List.map_nil, List.mem_cons, List.not_mem_nil, or_false, not_or]
    exact ⟨Fp.apart 2 1 rfl rfl (by decide), Fp.apart 2 5 rfl rfl (by decide), Fp.apart 2 6 rfl rfl (by decide), Fp.apart 2 7 rfl rfl (by decide), Fp.apart 2 8 rfl rfl (by decide)⟩
  have h57L : 57 ≠ L ∧ 57 ∉ [(ma, listO ysm km), (L + 5, o 5), (L + 6, o 6), (L + 7, o 7), (L + 8, o 8)].map (·.1) := by
    refine ⟨(Fp.mus (57, tabObj #[]) (by simp)).2.1, ?_⟩
    simp only [List.map_cons, List.map_nil, List.mem_cons, List.not_mem_nil, or_false, not_or]
    exact ⟨Fp.apart 4 1 rfl rfl (by decide), Fp.apart 4 5 rfl rfl (by decide), Fp.apart 4 6 rfl rfl (by decide), Fp.apart 4 7 rfl rfl (by decide), Fp.apart 4 8 rfl rfl (by decide)⟩
  have hset : ∀ (p : Addr) (ob : Obj), h.get? p = some ob → (p, ob) ∈ (b, bookO dx (rows.map RowH.entry) nb lam) :: (163, tabObj ps) :: rows.map RowH.led → I2.get? p = some ob := by
    intro p ob e hp
    have nd := Fp.nd
    rw [← List.cons_append, ← List.cons_append, List.map_append] at nd
    have nd3 := (List.nodup_append.mp nd).2.2
    have key : p ≠ 57 ∧ p ≠ dx ∧ p ≠ L ∧ p ∉ [(ma, listO ysm km), (L + 5, o 5), (L + 6, o 6), (L + 7, o 7), (L + 8, o 8)].map (·.1) := by
      simp only [List.map_cons, List.map_nil, List.mem_cons, List.not_mem_nil, or_false, not_or]
      rcases List.mem_cons.mp hp with q | hp
      · cases q
        exact ⟨Fp.apart 0 4 rfl rfl (by decide), Fp.apart 0 2 rfl rfl (by decide), (Fp.mus (b, _) (.head _)).2.1, Fp.apart 0 1 rfl rfl (by decide), Fp.apart 0 5 rfl rfl (by decide), Fp.apart 0 6 rfl rfl (by decide), Fp.apart 0 7 rfl rfl (by decide), Fp.apart 0 8 rfl rfl (by decide)⟩
      · rcases List.mem_cons.mp hp with q | hp
        · cases q
          exact ⟨Fp.apart 3 4 rfl rfl (by decide), Fp.apart 3 2 rfl rfl (by decide), (Fp.mus (163, tabObj ps) (by simp)).2.1, Fp.apart 3 1 rfl rfl (by decide), Fp.apart 3 5 rfl rfl (by decide), Fp.apart 3 6 rfl rfl (by decide), Fp.apart 3 7 rfl rfl (by decide), Fp.apart 3 8 rfl rfl (by decide)⟩
        · have n : ∀ q ∈ ((b, bookO dx (rows.map RowH.entry) nb lam) :: (ma, listO ysm km) :: [(dx, dictOf [] 0), (163, tabObj ps), (57, tabObj #[]), (L + 5, o 5), (L + 6, o 6), (L + 7, o 7), (L + 8, o 8)] : Led), p ≠ q.1 := fun q hq e => nd3 q.1 (List.mem_map_of_mem hq) p (List.mem_map.mpr ⟨(p, ob), hp, rfl⟩) e.symm
          exact ⟨n (57, tabObj #[]) (by simp), n (dx, dictOf [] 0) (by simp), (Fp.mus (p, ob) (List.mem_cons_of_mem _ (List.mem_cons_of_mem _ (List.mem_append_right _ hp)))).2.1, n (ma, listO ysm km) (by simp), n (L + 5, o 5) (by simp), n (L + 6, o 6) (by simp), n (L + 7, o 7) (by simp), n (L + 8, o 8) (by simp)⟩
    exact hab p ob (k1 p ob key.1 key.2.1 e) key.2.2.1 key.2.2.2
  have hrowsI : ∀ r ∈ rows, I2.get? r.addr = some (listO r.items r.cap) := fun r hr => hset r.addr _ (F.get (a := r.addr) (o := listO r.items r.cap) (List.mem_cons_of_mem _ (List.mem_cons_of_mem _ (List.mem_append_left _ (List.mem_map.mpr ⟨r, hr, rfl⟩))))) (List.mem_cons_of_mem _ (List.mem_cons_of_mem _ (List.mem_map.mpr ⟨r, hr, rfl⟩)))
  have h163 := hset 163 _ (F.get (a := 163) (o := tabObj ps) (by simp)) (by simp)
  clear F Fp Fk F1
  have lv : ∀ (p : Addr) (ob : Obj), (p, ob) ∈ [(ma, listO ysm km), (L + 5, o 5), (L + 6, o 6), (L + 7, o 7), (L + 8, o 8)] → h.get? p = some ob := fun p ob hp => hkeep p ob hp
  have hLs : ∃ ob, h.get? L = some ob := hLe
  have new2 : ∀ x ob, h.get? x = none → h1.get? x = some ob → I2.get? x = some ob := fun x ob e1 e2 => hab x ob e2 (fun q => by obtain ⟨o', e'⟩ := hLs; rw [q, e'] at e1; cases e1) (fun hm => by
    obtain ⟨p, hp, e⟩ := List.mem_map.mp hm
    have := lv p.1 p.2 hp
    rw [e, e1] at this; cases this)
  have B2 := B.keeps kI2
  have bI : I2.get? b = some (bookO dx (rows.map RowH.entry) nb lam) := hset b _ hbk (by simp)
  have dI2 : I2.get? dx = some (dictOf as' na') := hab _ _ edx hdxL.1 hdxL.2
  have frz : ∀ x t, Makes w I2 fz [.str x t] ma 6 60 := hfrz I2 ma _ _ _ _ new2 B2.gd bI dI2 B2.fnl B2.makes
  try dsimp only
  walk_at "m"
  refine isnot_none_none ?_
  walk_at "m"
  rw [if_neg Bool.false_ne_true]
  walk_at "m"
  try dsimp only
  walk_at "m"
  walk_at "m"
  have C2 : BaseC w mg mb I2 L E b lam ma la ca pa fz rows := ⟨B2, ⟨dx, as', na', nb, bI, dI2, (hget _).trans (if_pos rfl), (hget _).trans (if_neg (by decide +kernel))⟩, let ⟨a, b, c, d, e⟩ := ffz; ⟨a, b, c, d, new2 _ _ nfz e⟩, frz, hrows, hrowsI, ⟨_, hab _ _ e57 h57L.1 h57L.2⟩, ⟨_, h163⟩⟩
  clear frz bI dI2 hrowsI h163 hset hab k1 e57 edx hget ffz hfrz new2 lv
  have G2 := C2.base.gd
  obtain ⟨oc, hoc, doc⟩ := B2.cc
  obtain ⟨op, hop, dop⟩ := B2.cp
  obtain ⟨pt, pu, pv, hpa⟩ := B2.places
  obtain ⟨cys, ck, hca, hcols⟩ := B2.cols
  obtain ⟨v5, d5⟩ := ho 5
  have same : ∀ i j, i < E.length → j < E.length → (colsL (E.getD i []) = colsL (E.getD j []) ↔ κE E i = κE E j) := fun i j hi hj => by
    have mi : E.getD i [] ∈ E := by rw [List.getD_eq_getElem?_getD, List.getElem?_eq_getElem hi]; exact List.getElem_mem _
    have mj : E.getD j [] ∈ E := by rw [List.getD_eq_getElem?_getD, List.getElem?_eq_getElem hj]; exact List.getElem_mem _
    exact (lead_same (hlead _ mi) (hlead _ mj)).2
  refine comp_pick (g := g) (d := d) (os := os) (cl := [(Str.ofString "columns", L + 3)]) rm.handled rfl (by decide) rfl (by decide) (by decide +kernel) (by decide +kernel) (fun _ => rfl) ?_
  refine ldCell (c := L + 4) rfl (F2.keep _ _ hop) dop ?_ rfl rfl rfl
  refine ⟨h1, _, pa, E.length, pt, pu, pv, fun k => !(firstsN (κE E) k).any (fun f => κE E f == κE E k), I2, L, m, _, rfl, rfl, F2.keep _ _ hpa, by omega, F2, ?_, ?_⟩
  · intro C i ti I3 h3 tk3 E3 m3 hi hI3 hI3h hns hm
    have k3 : I2.StaysIn h3 := fun b o e => hI3h _ _ (hI3 _ _ e)
    obtain ⟨cc, vs, kc, ec, hc3, hvs⟩ := hcols.2 i hi
    obtain ⟨j, hj, pj, nj⟩ := least (p := fun j => colsL (E.getD j []) = colsL (E.getD i [])) i rfl
    walk_at "m"
    walk_at "mMeth"
    refine ldCell (c := L + 3) rfl (k3 _ _ hoc) doc ?_ rfl rfl rfl
    refine getMethod_list_of PySem.F.slot_list_index PySem.F.type_list_index (isListO (k3 _ _ hca)) ⟨_, k3 _ _ hca, rfl⟩ ?_
    refine callWith_method1 ?_
    refine wpAny_items_cons ?_ rfl
    refine PyProof.Rows.Subscript_ ?_
    refine ldCell (c := L + 3) rfl (k3 _ _ hoc) doc ?_ rfl rfl rfl
    refine ldNs hns hm ?_ rfl rfl rfl
    refine itemL (isListO (k3 _ _ hca)) (by simpa using ec) (by omega) ?_
    refine wpAny_items_nil ?_
    refine index_rows (j := j) (k3 _ _ hca) (hcols.keeps k3) (k3 _ _ hc3) hvs (by have := rm.units; omega) (by omega) (by omega) pj nj ?_
    refine ldNs hns hm ?_ rfl rfl rfl
    walk_at "m"
    walk_at "m"
    refine ⟨h3, _, rfl, fun _ _ e => e, ?_⟩
    show ((j : Int) == (i : Int)) = !((firstsN (κE E) i).any fun f => κE E f == κE E i)
    by_cases hany : (firstsN (κE E) i).any (fun f => κE E f == κE E i) = true
    · rw [hany]
      obtain ⟨f, hf, ef⟩ := (firstsN_any (κE E)).mp hany
      have := (same f i (by omega) hi).mpr ef
      have hjf : ¬ f < j := fun hlt => nj f hlt this
      simp; omega
    · have hany2 : (firstsN (κE E) i).any (fun f => κE E f == κE E i) = false := by simpa using hany
      rw [hany2]
      have : j = i := by
        by_cases q : j < i
        · exact absurd ((firstsN_any (κE E)).mpr ⟨j, q, (same j i (by omega) hi).mp pj⟩) hany
        · omega
      rw [this]; simp
  · intro D ys I3 h3 tk3 k3 hys hI3 _ F3
    rw [firstsN_filter] at hys
    refine stCell (pre := [(D, listO ys k3), (ma, listO ysm km)]) (post := [(L + 6, o 6), (L + 7, o 7), (L + 8, o 8)]) F3 d5 (by exact rfl) (fun h4 F4 => ?_) rfl rfl
    obtain ⟨I5, kI5, F5, cf5⟩ := F4.settle 2 rfl
    obtain ⟨I6, kI6, F6, cD6⟩ := F5.settle 0 rfl
    replace F6 : Fm I6 L h4 m [(ma, listO ysm km), (L + 6, o 6), (L + 7, o 7), (L + 8, o 8)] := F6
    replace cf5 := kI6 _ _ cf5
    have k26 : I2.StaysIn I6 := fun b o e => kI6 _ _ (kI5 _ _ (hI3 _ _ e))
    clear F3 F4 F5
    walk_at "m"
    have nlen := hys.length
    rw [List.length_map] at nlen
    have flen := firstsN_len (κE E) E.length
    refine comp_cell (g := g) (d := d) (os := os) (cl := [(Str.ofString "places", L + 4), (Str.ofString "firsts", L + 5), (Str.ofString "columns", L + 3)]) rm.handled rfl rfl rfl (fun _ => rfl) (fun _ => rfl) (by decide) rfl rfl rfl (fun _ => rfl) ?_
    walk_at "mCall"
    have G6 := (G2.keeps k26).keeps F6.keep
    walk_at "mB"
    walk_at "mArgT"
    refine wpAny_items_cons ?_ rfl
    walk_at "mCall"
    walk_at "mB"
    walk_at "mArgB"
    refine wpAny_items_cons ?_ rfl
    refine ldCell (c := L + 5) rfl (F6.keep _ _ cf5) rfl ?_ rfl rfl rfl
    walk_at "ms"
    refine len_list (isListO (F6.keep _ _ cD6)) (by simp; omega) ?_
    walk_at "ms"
    refine call_range_1 ?_
    dsimp only
    have hys6 := hys
    have cc6 : I6.get? ca = some (listO cys ck) := k26 _ _ hca
    have hcols6 := hcols.keeps k26
    refine ⟨_, _, _, ys.toArray.size, _, _, _, fun i zs I => ListsIn I zs (fun c => ((rowsN (κE E) E.length).getD c ([], [])).2) i, I6, m, _, rfl, rfl, IsRange.new .., by simp; omega, F6.pure (stays_push _ _), ⟨rfl, fun j hj => absurd hj (Nat.not_lt_zero _)⟩, ?_, ?_⟩
    · intro C i ti zs I7 h7 tk7 E7 m7 hi hC hzs hI7 hI7h hns hcc
      have hi : i < ys.length := by simpa using hi
      have hif : i < (firstsN (κE E) E.length).length := by omega
      have kC : ∀ x ob, I6.get? x = some ob → x ≠ C := fun x ob e q => by rw [q] at e; cases hC.symm.trans (Heap.get?_push_of_some _ (F6.keep _ _ e))
      have k67 : I6.StaysIn h7 := fun x ob e => hI7h _ _ (hI7 _ _ e)
      refine turn_all ?_
      walk_at "m"
      refine listNew ?_
      refine wpAny_items_cons ?_ rfl
      refine ldCell (c := C + 1) rfl hcc rfl ?_ rfl rfl rfl
      refine wpAny_items_nil ⟨by rw [sizeLine_eq]; simp, fun T1 h8 k8 n8 e8 => ?_⟩
      have C1 : C + 1 ≠ C := Nat.succ_ne_self C
      have T1C : T1 ≠ C := fun q => by obtain ⟨oc, _, _, e, _⟩ := hns; rw [← q, n8] at e; cases e
      have Fc : Fm (hideAll h8 [C]) C h8 m7 [] := ⟨hns.keeps k8, fun b o e => of_hideAll _ e, hideAll_none _ (.head _), (fun _ hp => nomatch hp), List.nodup_nil⟩
      have toH : ∀ x ob, h8.get? x = some ob → x ≠ C → (hideAll h8 [C]).get? x = some ob := fun x ob e ne => hideAll_get _ e (fun hm => ne (List.mem_singleton.mp hm))
      have kH : I6.StaysIn (hideAll h8 [C]) := fun x ob e => toH _ _ (k8 _ _ (k67 _ _ e)) (kC _ _ e)
      refine comp_pick (g := g) (d := d) (os := os) (cl := [(Str.ofString "firsts", L + 5), (Str.ofString "columns", L + 3), (Str.ofString "c", C + 1)]) rm.handled rfl (by decide) rfl (by decide) (by decide +kernel) (by decide +kernel) (fun _ => rfl) ?_
      refine ldCell (c := L + 4) rfl (k8 _ _ (k67 _ _ (k26 _ _ hop))) dop ?_ rfl rfl rfl
      refine ⟨h8, _, pa, E.length, pt, pu, pv, fun m => κE E m == κE E ((firstsN (κE E) E.length).getD i 0), hideAll h8 [C], C, m7, [], rfl, rfl, k8 _ _ (k67 _ _ (k26 _ _ hpa)), by omega, Fc, ?_, ?_⟩
      · intro C9 i9 t9 I9 h9 tk9 E9 m9 hi9 hI9 hI9h hns9 hm9
        have k69 : I6.StaysIn h9 := fun x ob e => hI9h _ _ (hI9 _ _ (kH _ _ e))
        have hc9 : h9.get? (C + 1) = some (cellO (some (.int (i : Nat) ti))) := hI9h _ _ (hI9 _ _ (toH _ _ (k8 _ _ hcc) C1))
        obtain ⟨tf, hf⟩ := ints_get hys i (by simpa using hif)
        have ef : ((firstsN (κE E) E.length).map fun (m : Nat) => (m : Int)).getD i 0 = (((firstsN (κE E) E.length).getD i 0 : Nat) : Int) := by
          rw [List.getD_eq_getElem?_getD, List.getD_eq_getElem?_getD, List.getElem?_map, List.getElem?_eq_getElem hif]; rfl
        rw [ef] at hf
        have mf : (firstsN (κE E) E.length).getD i 0 < E.length := firstsN_lt _ (by rw [List.getD_eq_getElem?_getD, List.getElem?_eq_getElem hif]; exact List.getElem_mem _)
        generalize (firstsN (κE E) E.length).getD i 0 = f at hf mf
        obtain ⟨c1, vs1, kc1, ec1, hc1, hvs1⟩ := hcols6.2 i9 hi9
        obtain ⟨c2, vs2, kc2, ec2, hc2, hvs2⟩ := hcols6.2 f mf
        walk_at "m"
        refine PyProof.Rows.Subscript_ ?_
        refine ldCell (c := L + 3) rfl (k69 _ _ (k26 _ _ hoc)) doc ?_ rfl rfl rfl
        refine ldNs hns9 hm9 ?_ rfl rfl rfl
        refine itemL (isListO (k69 _ _ cc6)) (by simpa using ec1) (by omega) ?_
        refine PyProof.Rows.Subscript_ ?_
        refine ldCell (c := L + 3) rfl (k69 _ _ (k26 _ _ hoc)) doc ?_ rfl rfl rfl
        refine PyProof.Rows.Subscript_ ?_
        refine ldCell (c := L + 5) rfl (k69 _ _ cf5) rfl ?_ rfl rfl rfl
        refine ldCell (c := C + 1) rfl hc9 rfl ?_ rfl rfl rfl
        refine itemL (isListO (k69 _ _ cD6)) (by simpa using hf) (by omega) ?_
        refine itemL (isListO (k69 _ _ cc6)) (by simpa using ec2) (by omega) ?_
        refine SeqAt.compareEq_reads (reads_dI (k69 _ _ hc1) rfl rfl hvs1) (reads_dI (k69 _ _ hc2) rfl rfl hvs2) (lay_dI _) (lay_dI _) (by have := dep_dI (colsL (E.getD i9 [])); have := rm.units; omega) ?_
        rw [eqv_dI]
        walk_at "m"
        refine ⟨h9, _, rfl, fun _ _ e => e, ?_⟩
        rw [Bool.eq_iff_iff]
        simp only [decide_eq_true_eq, beq_iff_eq]
        exact same i9 f hi9 mf
      · intro D9 ys9 I9 h9 tk9 k9 hys9 hI9 kh9 F9
        refine addList (kh9 _ _ e8) (F9.get (.head _)) (by have := hys9.length; have := membersN_le (κE E) E.length ((firstsN (κE E) E.length).getD i 0); rw [sizeLine_eq]; unfold membersN at this; simp only [List.length_cons, List.length_nil]; omega) fun T2 h10 k10 n10 e10 => ?_
        have k710 : h7.StaysIn h10 := fun x ob e => k10 _ _ (kh9 _ _ (k8 _ _ e))
        refine elt_pure (Inv := fun ys mu I => mu = [] ∧ ListsIn I ys (fun c => ((rowsN (κE E) E.length).getD c ([], [])).2) (i + 1)) k710 fun I' hI' hnew => ⟨rfl, hzs.snoc hI' (hnew _ _ e10 (isNone_of fun o e => by have := kh9 _ _ (k8 _ _ e); rw [n10] at this; cases this)) ?_⟩
        have er : ((rowsN (κE E) E.length).getD i ([], [])).2 = (i : Int) :: membersN (κE E) E.length ((firstsN (κE E) E.length).getD i 0) := by
          unfold rowsN
          rw [List.getD_eq_getElem?_getD, List.getElem?_map, List.getElem?_range hif]; rfl
        show IntsAre _ ((rowsN (κE E) E.length).getD i ([], [])).2
        rw [er]
        exact .cons _ _ hys9
    · intro cla zs I7 h7 tk7 k7 hzs hI7 F7 _
      obtain ⟨I8, kI8, F8, cla8⟩ := F7.settle 0 rfl
      replace F8 : Fm I8 L h7 _ [(ma, listO ysm km), (L + 6, o 6), (L + 7, o 7), (L + 8, o 8)] := F8
      have k28 : I2.StaysIn I8 := fun x ob e => kI8 _ _ (hI7 _ _ (k26 _ _ e))
      have elen : ys.toArray.size = (rowsN (κE E) E.length).length := by rw [rowsN_len, List.size_toArray]; exact nlen
      rw [elen] at hzs
      refine hret I8 h7 _ fz cla zs k7 _ (fun x ob e => k28 _ _ (kI2 _ _ e)) (fun x hx => if_neg hx) (if_pos rfl) cla8 (hzs.keeps kI8) (C2.keeps k28) F8

def forBody : Stmt → List Stmt | .For _ _ b _ _ => b | _ => []
noncomputable def loopB (K : Frag) (a n : Nat) : List Stmt := match (bodyOf K a)[n]? with | some s => forBody s | none => []
theorem loop_is {K : Frag} {a : Addr} {k : Nat} {M : Model} {A : Around} {Q : Flow → Shared → Prop} {E : Value → Shared → Prop} {s : Shared} {q : Str} {L : Addr} {cd : Value} {n : Nat} {B : List Stmt} {S : Scope} (hB : loopB K a k = B) (hS : scopeOf K a = S) (h : wpAny M A (execs (B.drop n) (envOfC q S L a cd)) Q E s) :
    wpAny M A (execs ((loopB K a k).drop n) (envOfC q (scopeOf K a) L a cd)) Q E s := hB ▸ hS ▸ h
section
variable {prog : Program} {w : World} {A : Around} {E : Value → Shared → Prop} {s : Shared} {env : Env}
/-- the rest of a list behind a place -/
theorem sliceDrop {value : Expr} {e : Expr} {p pos : Pos} {Q : Value → Shared → Prop}
    (h : wpAny (model prog w) A (eval value env) (fun o s₁ => wpAny (model prog w) A (eval e env) (fun vl s₂ => ∃ (l : Addr) (xs : List Value) (k a : Nat) (t : Tok), o = .ref l ∧ s₂.heap.get? l = some (listO xs k) ∧ xs.length ≤ 1000 ∧ a ≤ xs.length ∧ vl = .int (a : Int) t ∧
      (∀ T h', s₂.heap.StaysIn h' → s₂.heap.get? T = none → h'.get? T = some (listO (xs.drop a) 0) → Q (.ref T) { s₂ with heap := h' })) E s₁) E s)
    (ht : ∀ o r, letTemporaryGo value o r = pure () := by intro _ _; rfl) :
    wpAny (model prog w) A (eval (.Subscript value (.Slice (some e) none none p) pos) env) Q E s := by
  refine wpAny_Subscript_list_slice (wpAny_mono h (fun o s₁ h₁ => wpAny_mono h₁ (fun vl s₂ h₂ => ?_) fun _ _ e => e) fun _ _ e => e) ht
  rw [evalPart_none]
  obtain ⟨l, xs, k, a, t, rfl, hl, hn, ha, rfl, hq⟩ := h₂
  refine wpAny_pure ⟨l, xs.toArray, some (a : Int), none, rfl, isListO hl, by rw [List.size_toArray, sizeLine_eq]; omega, .int _ _, .none, ?_⟩
  rw [slicePick_from xs.toArray a (by simpa using ha)]
  refine hq _ _ (fun b o e => Heap.get?_push_of_some _ (Heap.get?_push_of_some _ e)) (isNone_of fun o e => absurd (Heap.lt_size e) (Nat.not_lt.mpr (Nat.le_succ _))) ?_
  have := Heap.get?_push_size (s₂.heap.push { cls := .type "slice", data := .fields #[.int (a : Int) t, .none, .none] }) (o := { cls := .type "list", data := .seq (xs.toArray.toList.drop a).toArray }) rfl
  rw [Heap.size_push] at this
  simpa using this
/-- the equal of a lead, named to be called -/
theorem lead_equal {x : Addr} {l : List Nat} {pl : Sem Bool} {Q : Value × List Value → Shared → Prop} (X : (hd.heap_39 w.params).In s.heap) (H : LeadAt s.heap x l) (h : Q (.ref 107, [.ref x]) s) :
    wpAny (model prog w) A (getMethod (.ref x) (Str.ofString "equal") pl) Q E s := by
  obtain ⟨dx, es, n, tn, tc, k1, k2, ws, tb, a, b, _, d, _⟩ := H
  refine method_fn (f := 107) X (⟨a, rfl, rfl, b⟩ : InstAt s.heap x (instObj 131 dx) 131 (some (dictOf es n))) (by exact rfl) (by exact rfl) (by exact rfl) (by exact rfl) ?_ h
  show (lookIn _ _).map _ = _
  rw [lookIn_dict, d]; rfl
end
theorem Fm.grow {I h h' : Heap} {L : Addr} {m : Str → Option Value} {mu : Led} (F : Fm I L h m mu) (k : h.StaysIn h') : ∃ I', I.StaysIn I' ∧ Fm I' L h' m mu ∧ ∀ b o, h.get? b = none → h'.get? b = some o → I'.get? b = some o := by
  obtain ⟨I', kI, F', hab⟩ := (F.pure k).absorb
  refine ⟨I', kI, F', fun b o e1 e2 => hab b o e2 (fun q => ?_) fun hm => ?_⟩
  · obtain ⟨oL, _, _, e, _⟩ := F.ns; rw [q, e] at e1; cases e1
  · obtain ⟨p, hp, e⟩ := List.mem_map.mp hm
    have := (F.mus p hp).1
    rw [e, e1] at this; cases this

/-- the places whose text has this key -/
noncomputable def likeK (E : List (List Nat)) (l : List Nat) : List Int := ((List.range E.length).filter fun k => κE E k == spellL (normL l)).map fun (m : Nat) => (m : Int)
set_option maxHeartbeats 4000000 in
theorem bodyD1 (w : World) (mg mb : Str → Option Value) :
  ∀ (E : List (List Nat)) (l : List Nat) (t : Tok) (b lam ma la ca pa fz L : Addr) (rows : List RowH) (A : Around) (I h : Heap) (m : Str → Option Value) (g : Array GenState) (d : Drawn) (tk : Nat) (os : OsState) (o6 o7 o8 : Obj) (v6 v7 v8 : Option Value) (ysm : List Value) (km : Nat) (Q : Flow → Shared → Prop) (Er : Value → Shared → Prop),
    BaseC w mg mb I L E b lam ma la ca pa fz rows → Rm A 12 120 → E.length ≤ 10 → (∀ e ∈ E, IsLead e) → IsLead l → o6.data = .cell v6 → o7.data = .cell v7 → o8.data = .cell v8 →
    Fm I L h m [(ma, listO ysm km), (L + 6, o6), (L + 7, o7), (L + 8, o8)] → m (Str.ofString "text") = some (.str (tx l) t) →
    (∀ (I' h' : Heap) x D lks lk v7 tk', I.StaysIn I' → CellAt I' (L + 6) (.ref x) → LeadAt I' x l → CellAt I' (L + 7) v7 → CellAt I' (L + 8) (.ref D) → I'.get? D = some (listO lks lk) → IntsAre lks (likeK E l) → Fm I' L h' m [(ma, listO ysm km)] →
      wpAny (model PySem.Challenge.rw_in0106_01.row.prog w) A (execs ((loopB (K₀ w) 166 9).drop 4) (ev w L)) Q Er ⟨h', g, d, tk', os⟩) →
    wpAny (model PySem.Challenge.rw_in0106_01.row.prog w) A (execs ((loopB (K₀ w) 166 9).drop 0) (ev w L)) Q Er ⟨h, g, d, tk, os⟩ := by
  intro E l t b lam ma la ca pa fz L rows A I h m g d tk os o6 o7 o8 v6 v7 v8 ysm km Q Er C rm hn10 hlead hl d6 d7 d8 F mt hret
  refine' loop_is (B := [?s0, ?s1, ?s2, ?s3, ?s4, ?s5, ?s6, ?s7, ?s8]) (S := ⟨?k, ?n, ?g, ?c, ?m⟩) ?hB ?hS ?_
  case hB => exact rfl
  case hS => exact rfl
  dsimp only [List.drop]
  have G := C.base.gd
  have hll := hl.len
  obtain ⟨mrange, mlen, mtuple, mgetattr, msuper, mlist⟩ := mg_facts G
  obtain ⟨glead, gcolumns, gspelled, gnumbered, glook, gws, gfdd⟩ := mg_own G
  obtain ⟨ol, hol, dol⟩ := C.base.cl
  obtain ⟨oc, hoc, doc⟩ := C.base.cc
  obtain ⟨op, hop, dop⟩ := C.base.cp
  obtain ⟨pt, pu, pv, hpa⟩ := C.base.places
  obtain ⟨cys, ck, hca, hcols⟩ := C.base.cols
  obtain ⟨lys, lk, hla, hls⟩ := C.base.leads
  have same : ∀ i, i < E.length → (colsL (E.getD i []) = colsL l ↔ κE E i = spellL (normL l)) ∧ (normL l = normL (E.getD i []) ↔ κE E i = spellL (normL l)) := fun i hi => by
    have mi : E.getD i [] ∈ E := by rw [List.getD_eq_getElem?_getD, List.getElem?_eq_getElem hi]; exact List.getElem_mem _
    have := lead_same (hlead _ mi) hl
    exact ⟨this.2, ⟨fun e => this.2.mp (this.1.mpr e.symm), fun e => (this.1.mp (this.2.mpr e)).symm⟩⟩
  have G1 := G.keeps F.keep
  walk_at "m"
  walk_at "m"
  walk_at "mCall"
  walk_at "mG"
  refine callWith_K (K := K₀ w) (h₀ := h) G1.kin (by exact rfl) ?_ rfl rfl
  refine wpAny_items_cons ?_ rfl
  walk_at "mL"
  refine wpAny_items_nil ⟨G1.kin, ?_⟩
  show wpAny _ _ (call (.ref 131) [.str _ t]) _ _ _
  refine wpAny_call (ws_spec w mg mb _ t _ h g d _ os _ G1 rm.le (by omega) fun x h1 tk1 k1 n1 H1 => ?_)
  obtain ⟨I2, kI2, F2, new2⟩ := F.grow k1
  have Lx := H1 I2 fun b o e1 e2 => new2 b o e2 e1
  clear F
  dsimp only
  refine stCell (pre := [(ma, listO ysm km)]) (post := [(L + 7, o7), (L + 8, o8)]) F2 d6 (by exact rfl) (fun h3 F3 => ?_) rfl rfl
  obtain ⟨I4, kI4, F4, c6⟩ := F3.settle 1 rfl
  replace F4 : Fm I4 L h3 m [(ma, listO ysm km), (L + 7, o7), (L + 8, o8)] := F4
  clear F2 F3
  replace Lx := Lx.keeps kI4
  have G4 := (G.keeps kI2).keeps kI4
  have G4h := G4.keeps F4.keep
  walk_at "m"
  walk_at "m"
  walk_at "mCall"
  walk_at "mG"
  refine callWith_K (K := K₀ w) (h₀ := h3) G4h.kin (by exact rfl) ?_ rfl rfl
  refine wpAny_items_cons ?_ rfl
  walk_at "mL"
  refine wpAny_items_nil ⟨G4h.kin, ?_⟩
  show wpAny _ _ (call (.ref 149) [.str _ t]) _ _ _
  refine wpAny_call (columns_spec w mg mb _ t _ ⟨h3, g, d, _, os⟩ _ G4h rm.le (by omega) fun wd wvs h5 tk5 k5 n5 ⟨kw, H5⟩ hwvs => ?_)
  have F5 := F4.new k5 n5 H5
  dsimp only
  refine stCell (pre := [(wd, listO wvs kw), (ma, listO ysm km)]) (post := [(L + 8, o8)]) F5 d7 (by exact rfl) (fun h6 F6 => ?_) rfl rfl
  obtain ⟨I7, kI7, F7, c7⟩ := F6.settle 2 rfl
  obtain ⟨I8, kI8, F8, cw⟩ := F7.settle 0 rfl
  replace F8 : Fm I8 L h6 m [(ma, listO ysm km), (L + 8, o8)] := F8
  clear F4 F5 F6 F7
  have k48 : I4.StaysIn I8 := fun b o e => kI8 _ _ (kI7 _ _ e)
  replace c7 := kI8 _ _ c7
  replace Lx := Lx.keeps k48
  replace c6 := k48 _ _ c6
  have k8 : I.StaysIn I8 := fun b o e => k48 _ _ (kI4 _ _ (kI2 _ _ e))
  have G8 := G.keeps k8
  clear kI2 kI4 kI7 kI8 k48 G4 G4h
  walk_at "m"
  walk_at "m"
  refine comp_pick (g := g) (d := d) (os := os) (cl := [(Str.ofString "walked", L + 7), (Str.ofString "columns", L + 3)]) rm.handled rfl (by decide) rfl (by decide) (by decide +kernel) (by decide +kernel) (fun _ => rfl) ?_
  refine ldCell (c := L + 4) rfl (F8.keep _ _ (k8 _ _ hop)) dop ?_ rfl rfl rfl
  refine ⟨h6, _, pa, E.length, pt, pu, pv, fun k => κE E k == spellL (normL l), I8, L, m, _, rfl, rfl, F8.keep _ _ (k8 _ _ hpa), by omega, F8, ?_, ?_⟩
  · intro C9 i9 t9 I9 h9 tk9 E9 m9 hi9 hI9 hI9h hns9 hm9
    have k89 : I8.StaysIn h9 := fun x ob e => hI9h _ _ (hI9 _ _ e)
    obtain ⟨c1, vs1, kc1, ec1, hc1, hvs1⟩ := hcols.2 i9 hi9
    walk_at "m"
    refine PyProof.Rows.Subscript_ ?_
    refine ldCell (c := L + 3) rfl (k89 _ _ (k8 _ _ hoc)) doc ?_ rfl rfl rfl
    refine ldNs hns9 hm9 ?_ rfl rfl rfl
    refine itemL (isListO (k89 _ _ (k8 _ _ hca))) (by simpa using ec1) (by omega) ?_
    refine ldCell (c := L + 7) rfl (k89 _ _ c7) rfl ?_ rfl rfl rfl
    refine SeqAt.compareEq_reads (reads_dI (k89 _ _ (k8 _ _ hc1)) rfl rfl hvs1) (reads_dI (k89 _ _ cw) rfl rfl hwvs) (lay_dI _) (lay_dI _) (by have := dep_dI (colsL (E.getD i9 [])); have := rm.units; omega) ?_
    rw [eqv_dI]
    walk_at "m"
    refine ⟨h9, _, rfl, fun _ _ e => e, ?_⟩
    rw [Bool.eq_iff_iff]
    simp only [decide_eq_true_eq, beq_iff_eq]
    exact (same i9 hi9).1
  · intro D lks I9 h9 tk9 kD hlks hI9 _ F9
    refine stCell (pre := [(D, listO lks kD), (ma, listO ysm km)]) (post := []) F9 d8 (by exact rfl) (fun h10 F10 => ?_) rfl rfl
    obtain ⟨I11, kI11, F11, c8⟩ := F10.settle 2 rfl
    obtain ⟨I12, kI12, F12, cD⟩ := F11.settle 0 rfl
    replace F12 : Fm I12 L h10 m [(ma, listO ysm km)] := F12
    clear F8 F9 F10 F11
    have k812 : I8.StaysIn I12 := fun b o e => kI12 _ _ (kI11 _ _ (hI9 _ _ e))
    have k12 : I.StaysIn I12 := fun b o e => k812 _ _ (k8 _ _ e)
    replace c8 := kI12 _ _ c8
    replace Lx := Lx.keeps k812
    replace c6 := k812 _ _ c6
    replace c7 := k812 _ _ c7
    have G12 := G.keeps k12
    walk_at "m"
    walk_at "m"
    walk_at "m"
    refine comp_pick (g := g) (d := d) (os := os) (cl := [(Str.ofString "leads", L + 2), (Str.ofString "lead", L + 6)]) rm.handled rfl (by decide) rfl (by decide) (by decide +kernel) (by decide +kernel) (fun _ => rfl) ?_
    refine ldCell (c := L + 4) rfl (F12.keep _ _ (k12 _ _ hop)) dop ?_ rfl rfl rfl
    refine ⟨h10, _, pa, E.length, pt, pu, pv, fun k => κE E k == spellL (normL l), I12, L, m, _, rfl, rfl, F12.keep _ _ (k12 _ _ hpa), by omega, F12, ?_, ?_⟩
    · intro C13 i13 t13 I13 h13 tk13 E13 m13 hi13 hI13 hI13h hns13 hm13
      have k13 : I12.StaysIn h13 := fun x ob e => hI13h _ _ (hI13 _ _ e)
      have G13 := G12.keeps k13
      obtain ⟨y, ey, Ly⟩ := hls.2 i13 hi13
      refine PyProof.Rows.isTrue_plain ?_ rfl
      walk_at "mMeth"
      refine ldCell (c := L + 6) rfl (k13 _ _ c6) rfl ?_ rfl rfl rfl
      refine lead_equal G13.kin (Lx.keeps k13) ?_
      dsimp only
      refine callWith_K (K := K₀ w) (h₀ := h13) G13.kin (by exact rfl) ?_ rfl rfl
      refine wpAny_items_cons ?_ rfl
      refine PyProof.Rows.Subscript_ ?_
      refine ldCell (c := L + 2) rfl (k13 _ _ (k12 _ _ hol)) dol ?_ rfl rfl rfl
      refine ldNs hns13 hm13 ?_ rfl rfl rfl
      refine itemL (isListO (k13 _ _ (k12 _ _ hla))) (by simpa using ey) (by omega) ?_
      refine wpAny_items_nil ⟨G13.kin, ?_⟩
      show wpAny _ _ (call (.ref 107) [.ref x, .ref y]) _ _ _
      refine wpAny_call (equal_spec w mg mb l _ x y _ h13 g d _ os _ G13 rm.le (Lx.keeps k13) ((Ly.keeps k12).keeps k13) fun h14 tk14 k14 => ?_)
      dsimp only
      walk_at "m"
      refine ⟨h14, _, rfl, k14, ?_⟩
      rw [Bool.eq_iff_iff]
      simp only [decide_eq_true_eq, beq_iff_eq]
      exact (same i13 hi13).2
    · intro D2 lks2 I13 h13 tk13 kD2 hlks2 hI13 _ F13
      have k1213 : I12.StaysIn h13 := fun x ob e => F13.keep _ _ (hI13 _ _ e)
      refine ldCell (c := L + 8) rfl (k1213 _ _ c8) rfl ?_ rfl rfl rfl
      refine SeqAt.compareNe_reads (reads_dI (F13.get (.head _)) rfl rfl hlks2) (reads_dI (k1213 _ _ cD) rfl rfl hlks) (lay_dI _) (lay_dI _) (by have := dep_dI (((List.range E.length).filter fun k => κE E k == spellL (normL l)).map fun (m : Nat) => (m : Int)); have := rm.units; omega) ?_
      rw [eqv_dI, decide_eq_true rfl]
      walk_at "m"
      rw [show (!true) = false from rfl, if_neg Bool.false_ne_true]
      walk_at "m"
      dsimp only
      exact hret I13 h13 x D lks kD _ _ (fun b o e => hI13 _ _ (k12 _ _ e)) ⟨_, hI13 _ _ c6, rfl⟩ (Lx.keeps hI13) ⟨_, hI13 _ _ c7, rfl⟩ ⟨_, hI13 _ _ c8, rfl⟩ (hI13 _ _ cD) hlks F13.tail

theorem dv_kind : builtinKind "dict.values" = some .method := by decide +kernel
theorem dv_split : splitId "dict.values" = some ("dict", "values") := by decide +kernel
theorem dv_entry : entryFor table "dict.values" = some Builtin.«dict.values» := entryFor_of_tree (by kernel_rfl)
theorem dv_args (a : Value) : argsOk "dict.values" ⟨[a], []⟩ := by unfold argsOk; kernel_rfl
section
variable {prog : Program} {w : World} {A : Around} {E : Value → Shared → Prop} {h : Heap} {g : Array GenState} {d : Drawn} {tk : Nat} {os : OsState} {b dx lam : Addr} {es : List DictEntry} {n : Nat}
/-- the view of the book's values -/
theorem book_values {Q : Value → Shared → Prop} (X : (hd.heap_39 w.params).In h) (hb : h.get? b = some (bookO dx es n lam)) (hb65 : 65 < b)
    (hq : Q (.ref h.objs.size) ⟨h.push { cls := .type "dict_values", data := .fields #[.ref b] }, g, d, tk, os⟩) :
    wpAny (model prog w) A (call (.builtin "dict.values") [.ref b]) Q E ⟨h, g, d, tk, os⟩ := by
  have Y := mk_of (M := model prog w) X
  have t1 : Looks (model prog w) h (typeOf (.ref b)) (.ref 65) := (Looks.ld hb).andThen .now
  have iI : Looks (model prog w) h (isInstance (.ref b) (.type "dict")) true := t1.andThen Y.dct
  have L1 := Y.ord
  have hns : (b == sysModules) = false := by rw [beq_eq_false_iff_ne]; intro q; rw [q] at hb65; exact absurd hb65 (by decide)
  refine wpAny_call (codeAny_call_builtin_at (Code.quiet_builtin _ (by decide +kernel)) dv_entry ?_)
  refine @kfo_check (model prog w) _ _ _ "dict.values" "dict" "values" (.ref b) [] [] _ dv_kind dv_split iI (dv_args _) ?_
  rw [Around.under_plainId (by decide +kernel) _]
  show wpAny _ _ (do let d ← Builtin.Dict.noArgs "values" ⟨[.ref b], []⟩; Builtin.Dict.showsAll d; ret (← newFields "dict_values" [.ref d])) _ _ _
  unfold Builtin.Dict.noArgs Builtin.Dict.notOrdered Builtin.Dict.showsAll newFields
  repeat (first | simp only [hns, Bool.false_eq_true, if_false] | lk)
  exact hq
end

/-- an iterator over the values of the book -/
def BookAt (h : Heap) (b : Addr) (es : List DictEntry) (n : Nat) : Prop := ∃ dx lam, h.get? b = some (bookO dx es n lam)
section
variable {prog : Program} {w : World} {A : Around} {E : Value → Shared → Prop} {s : Shared} {b v it : Addr} {es : List DictEntry} {n i : Nat}
theorem bk_iter {Q : Value → Shared → Prop} (hv : s.heap.IsValuesView v b) (hb : BookAt s.heap b es n)
    (hQ : Q (.ref s.heap.objs.size) { s with heap := s.heap.push { cls := .type "dict_valueiterator", data := .fields #[.ref b, .int 0 0, .int es.length 0, .int n 0] } }) :
    wpAny (model prog w) A (pyIter (.ref v)) Q E s := by
  obtain ⟨ov, hov, hcv, hdv⟩ := id hv
  obtain ⟨dx, lam, ho⟩ := hb
  refine wpAny_pyIter_slot hv.typeIs PySem.F.slot_dict_values_iter (wpAny_call_entry PySem.F.slot_dict_values_iter hv.typeIs PySem.F.entry_dict_values_iter ?_ (PySem.F.args_dict_values_iter_1 _))
  unfold Builtin.«dict_values.__iter__»
  refine wpAny_bind (wpAny_pure (wpAny_bind ?_))
  unfold Builtin.Dict_items.dictOf
  refine wpAny_bind (wpAny_field hov hdv (x := .ref b) rfl (wpAny_pure (wpAny_bind ?_)))
  unfold Builtin.Dict_items.newIterator
  refine wpAny_bind (wpAny_dictEntries ho rfl (wpAny_bind (wpAny_dictEpoch ho rfl ?_)))
  have hown : Builtin.Dict_items.ownsTuple "dict_valueiterator" = false := by decide
  simp only [hown, Bool.false_eq_true, if_false]
  refine wpAny_newObj_type (wpAny_pure ⟨_, rfl, "dict_valueiterator", _, ⟨_, Heap.get?_push_size _ rfl, rfl⟩, PySem.F.slot_dict_valueiterator_next.lookup, ?_⟩)
  simpa [rawInt] using hQ
theorem bk_next {e : DictEntry} {Q : Option Value → Shared → Prop} (hit : s.heap.IsValIter it b i es.length n) (hb : BookAt s.heap b es n) (hx : es[i]? = some e)
    (hQ : ∀ h', h'.IsValIter it b (i + 1) es.length n → Heap.SameBut it s.heap h' → Q (some e.val) { s with heap := h' }) : wpAny (model prog w) A (pyNext (.ref it)) Q E s := by
  obtain ⟨o, ho, hc, hd⟩ := id hit
  obtain ⟨dx, lam, hob⟩ := hb
  unfold pyNext
  refine wpAny_bind (wpAny_attempt (wpAny_callSpecial?_slot (name := Str.ofString "__next__") hit.typeIs PySem.F.slot_dict_valueiterator_next
    (wpAny_call_entry PySem.F.slot_dict_valueiterator_next hit.typeIs PySem.F.entry_dict_valueiterator_next ?_ (PySem.F.args_dict_valueiterator_next_1 _))))
  refine wpAny_bind (wpAny_pure (wpAny_bind (wpAny_bind ?_)))
  first | refine wpAny_bind (wpAny_typeNameOfWhole_valiter hit.typeIs (wpAny_pure ?_)) | refine wpAny_bind (wpAny_typeNameOf_valiter hit.typeIs (wpAny_pure ?_))
  refine wpAny_bind (wpAny_fieldsOf ho hd ?_)
  have hown : Builtin.Dict_items.ownsTuple "dict_valueiterator" = false := by decide
  simp only [hown, Bool.false_eq_true, if_false]
  show wpAny _ _ (if (Value.ref b == Value.none) = true then _ else _) _ _ s
  rw [if_neg (show ¬ ((Value.ref b == Value.none) = true) from Bool.false_ne_true)]
  refine wpAny_bind (wpAny_pure (wpAny_bind (wpAny_dictEntries hob rfl ?_)))
  rw [if_neg (by simp)]
  refine wpAny_bind (wpAny_pure (wpAny_bind (wpAny_dictEpoch hob rfl ?_)))
  rw [if_neg (by simp)]
  refine wpAny_pure ?_
  have hx' : es.toArray[i]? = some e := by simpa using hx
  simp only [show ¬ ((i : Int) < 0) from by omega, if_false, Int.toNat_natCast, hx']
  refine wpAny_bind ?_
  first | refine wpAny_bind (wpAny_typeNameOfWhole_valiter hit.typeIs (wpAny_pure ?_)) | refine wpAny_bind (wpAny_typeNameOf_valiter hit.typeIs (wpAny_pure ?_))
  refine wpAny_bind (wpAny_isOneOf_valiter hit.typeIs ?_)
  show wpAny _ _ (setField (.ref it) 1 (rawInt ((i : Int) + 1)) >>= _) _ _ s
  refine wpAny_bind (wpAny_setField ho hd (by simp) ?_)
  have hit' : (s.heap.update it (Obj.mapFields (·.setIfInBounds 1 (rawInt ((i : Int) + 1))))).IsValIter it b (i + 1) es.length n :=
    ⟨_, Heap.get?_update_self _ ho (Obj.isFreed_of_fields (Obj.data_mapFields hd _)), (Obj.cls_mapFields ..).trans hc, by rw [Obj.data_mapFields hd]; simp [rawInt]⟩
  refine wpAny_bind (wpAny_holding ?_)
  refine wpAny_bind (wpAny_isOneOf_valiter (s := { s with heap := s.heap.update it (Obj.mapFields (·.setIfInBounds 1 (rawInt ((i : Int) + 1)))) }) hit'.typeIs ?_)
  refine wpAny_bind (wpAny_isOneOf_valiter (s := { s with heap := s.heap.update it (Obj.mapFields (·.setIfInBounds 1 (rawInt ((i : Int) + 1)))) }) hit'.typeIs ?_)
  exact wpAny_pure (wpAny_pure ⟨_, rfl, wpAny_pure (hQ _ hit' (Heap.SameBut.update ..))⟩)
theorem bk_end {Q : Option Value → Shared → Prop} (hh : A.handled = none) (hit : s.heap.IsValIter it b i es.length n) (hb : BookAt s.heap b es n) (hx : es[i]? = none)
    (hQ : ∀ h', Heap.ExtBut it s.heap h' → Q none { s with heap := h' }) : wpAny (model prog w) A (pyNext (.ref it)) Q E s := by
  obtain ⟨o, ho, hc, hd⟩ := id hit
  obtain ⟨dx, lam, hob⟩ := hb
  unfold pyNext
  refine wpAny_bind (wpAny_attempt (wpAny_callSpecial?_slot (name := Str.ofString "__next__") hit.typeIs PySem.F.slot_dict_valueiterator_next
    (wpAny_call_entry PySem.F.slot_dict_valueiterator_next hit.typeIs PySem.F.entry_dict_valueiterator_next ?_ (PySem.F.args_dict_valueiterator_next_1 _))))
  refine wpAny_bind (wpAny_pure (wpAny_bind (wpAny_bind ?_)))
  first | refine wpAny_bind (wpAny_typeNameOfWhole_valiter hit.typeIs (wpAny_pure ?_)) | refine wpAny_bind (wpAny_typeNameOf_valiter hit.typeIs (wpAny_pure ?_))
  refine wpAny_bind (wpAny_fieldsOf ho hd ?_)
  have hown : Builtin.Dict_items.ownsTuple "dict_valueiterator" = false := by decide
  simp only [hown, Bool.false_eq_true, if_false]
  show wpAny _ _ (if (Value.ref b == Value.none) = true then _ else _) _ _ s
  rw [if_neg (show ¬ ((Value.ref b == Value.none) = true) from Bool.false_ne_true)]
  refine wpAny_bind (wpAny_pure (wpAny_bind (wpAny_dictEntries hob rfl ?_)))
  rw [if_neg (by simp)]
  refine wpAny_bind (wpAny_pure (wpAny_bind (wpAny_dictEpoch hob rfl ?_)))
  rw [if_neg (by simp)]
  refine wpAny_pure ?_
  have hx' : es.toArray[i]? = none := by simpa using hx
  simp only [show ¬ ((i : Int) < 0) from by omega, if_false, Int.toNat_natCast, hx']
  refine wpAny_bind ?_
  first | refine wpAny_bind (wpAny_typeNameOfWhole_valiter hit.typeIs (wpAny_pure ?_)) | refine wpAny_bind (wpAny_typeNameOf_valiter hit.typeIs (wpAny_pure ?_))
  show wpAny _ _ (setField (.ref it) 0 .none >>= _) _ _ s
  refine wpAny_bind (wpAny_setField ho hd (by simp) ?_)
  show wpAny _ _ (newExc (.type "StopIteration") [] >>= _) _ _ _
  refine wpAny_bind ?_
  simp only [newExc, newTuple]
  refine wpAny_bind (wpAny_newObj_type ?_ (by size_fits))
  refine wpAny_bind (m := firstArgMember _ _) (wpAny_of_eq (a := Value.none) (by first | rfl | (simp only [firstArgMember]; rfl)) ?_)
  refine wpAny_newObj_type ?_ (by size_fits)
  simp only [raiseNew]
  refine wpAny_bind (wpAny_handled ?_)
  rw [show A.in1.handled = none from hh]
  refine wpAny_bind (wpAny_pure (wpAny_throw ?_))
  refine wpAny_bind (wpAny_isInstance (T := "StopIteration") (b := true) ⟨_, Heap.get?_push_size _ rfl, rfl⟩ isSubtype_stop ?_)
  exact wpAny_pure (hQ _ (((Heap.SameBut.update ..).extBut.push _).push _))
theorem bk_walks (hh : A.handled = none) (I b : Addr) (hne : b ≠ I) (es : List DictEntry) (n : Nat) :
    Walks prog w A I [I, b] [I] es.length (fun i v => ∃ e, es[i]? = some e ∧ v = e.val) (fun i h => h.IsValIter I b i es.length n ∧ BookAt h b es n) where
  sub := fun c hc => by simp at hc; simp [hc]
  frame := fun _ _ _ st hk => ⟨st.1.at fun o e => hk I (by simp) o e, let ⟨dx, lam, e⟩ := st.2; ⟨dx, lam, hk b (by simp) _ e⟩⟩
  item := fun i s Q E hi st hQ => by
    obtain ⟨e, hx⟩ : ∃ e, es[i]? = some e := ⟨es[i], by simp [hi]⟩
    refine bk_next st.1 st.2 hx fun h' hit' hs' => ?_
    exact hQ _ h' s.toks ⟨e, hx, rfl⟩ ⟨hit', let ⟨dx, lam, e⟩ := st.2; ⟨dx, lam, (hs'.2 _ hne).trans e⟩⟩ fun c o hc e => hs'.extBut c o (fun h => hc (by simp [h])) e
  done := fun s Q E st hQ => bk_end hh st.1 st.2 (by simp) fun h' he' => hQ h' s.toks fun c o hc e => he' c o (fun h => hc (by simp [h])) e
  self := fun _ _ _ _ st hQ => wpAny_pyIter_valiter st.1 hQ
theorem bk_src {r b : Addr} {es : List DictEntry} {n : Nat} : KdlSrc prog w "dict_values" r b es.length (fun i v => ∃ e, es[i]? = some e ∧ v = e.val) (fun h => h.IsValuesView r b ∧ BookAt h b es n) where
  type := fun _ hm => hm.1.typeIs
  there := fun _ hm => ⟨let ⟨_, ho, _⟩ := hm.1; Heap.lt_size ho, let ⟨_, _, e⟩ := hm.2; Heap.lt_size e⟩
  keep := fun _ _ hm hk => ⟨let ⟨o, ho, x⟩ := hm.1; ⟨o, hk r (.inl rfl) o ho, x⟩, let ⟨dx, lam, e⟩ := hm.2; ⟨dx, lam, hk b (.inr rfl) _ e⟩⟩
  notList := by decide
  notTuple := by decide
  hint := fun _ _ _ _ hm hq => kdl_hint_values hm.1.typeIs hq
  iter := fun _ _ hh hm => ⟨_, _, (fun _ _ hq => bk_iter hm.1 hm.2 hq), bk_walks hh _ b (let ⟨_, _, e⟩ := hm.2; Nat.ne_of_lt (Heap.lt_size e)) es n, ⟨⟨_, Heap.get?_push_size _ rfl, rfl, rfl⟩, let ⟨dx, lam, e⟩ := hm.2; ⟨dx, lam, Heap.get?_push_of_some _ e⟩⟩⟩
/-- the list of the book's values -/
theorem book_list {r dx lam : Addr} {Q : Value → Shared → Prop} (hh : A.handled = none) (hv : s.heap.IsValuesView r b) (hb : s.heap.get? b = some (bookO dx es n lam)) (hn : es.length ≤ 1000)
    (hQ : ∀ T h' tk c, s.heap.StaysIn h' → s.heap.get? T = none → h'.get? T = some (listO (es.map (·.val)) c) → Q (.ref T) { s with heap := h', toks := tk }) :
    wpAny (model prog w) A (call (.type "list") [.ref r]) Q E s := by
  refine kdl_call (bk_src (n := n)) hh ⟨hv, dx, lam, hb⟩ (by rw [sizeLine_eq]; omega) fun h' tk acc' c' k e H => ?_
  refine hQ _ h' tk c' k (none_size _) ?_
  have : acc' = (es.map (·.val)).toArray := by
    refine Array.ext_getElem? fun i => ?_
    by_cases hi : i < es.length
    · obtain ⟨x, hx⟩ : ∃ x, acc'[i]? = some x := ⟨acc'[i]'(by rw [H.1]; exact hi), by simp⟩
      obtain ⟨e1, e2, e3⟩ := H.2 i x hx
      rw [hx, e3]
      simp [e2]
    · rw [Array.getElem?_eq_none (by rw [H.1]; omega), Array.getElem?_eq_none (by simpa using hi)]
  rw [this] at e; exact e
end

theorem filt_snoc {α : Type} (p : Nat → Bool) (f : Nat → α) (i : Nat) : ((List.range (i + 1)).filter p).map f = ((List.range i).filter p).map f ++ (if p i = true then [f i] else []) := by
  rw [List.range_succ, List.filter_append, List.map_append]
  congr 1
  cases h : p i <;> simp [h]
theorem foldl_arr (ys : List Value) : ∀ (k : Nat) (a : List Value), List.foldl (fun x1 x2 => x1 ++ x2) a.toArray (List.replicate k ys.toArray) = (a ++ (List.replicate k ys).flatten).toArray
  | 0, a => by simp
  | k + 1, a => by
    rw [List.replicate_succ, List.foldl_cons]
    have : a.toArray ++ ys.toArray = (a ++ ys).toArray := by simp
    rw [this, foldl_arr ys k]
    simp [List.replicate_succ]
theorem mulListN {prog : Program} {w : World} {A : Around} {E : Value → Shared → Prop} {s : Shared} {L l : Addr} {m : Str → Option Value} {ys : List Value} {k : Nat} {x : Int} {u : Tok} {Q : Value → Shared → Prop} (hn : s.heap.Ns L m) (hl : s.heap.get? l = some (listO ys k)) (hlo : 0 ≤ x) (hhi : x ≤ 100) (hz : ys.length ≤ 100)
    (h : ∀ T h', h'.Ns L m → (∀ b o, b ≠ L → s.heap.get? b = some o → h'.get? b = some o) → s.heap.get? T = none → h'.get? T = some (listO (List.replicate x.toNat ys).flatten 0) → Q (.ref T) { s with heap := h' }) :
    wpAny (model prog w) A (binaryOp .Mult (.ref l) (.int x u)) Q E s := by
  have hx : x.toNat ≤ 100 := by omega
  refine mul_list (items := ys.toArray) (frAll hn) (newsAll s.heap L) hl (by omega) (by omega) (by rw [List.size_toArray]; exact Nat.le_trans (Nat.mul_le_mul hz hx) (by decide)) fun h' F' N' => ?_
  refine h _ h' F'.ns (keptAll N' fun p hp => .tail _ hp) (none_size _) ?_
  rw [(N' _ (.head _)).1]
  cases ys with
  | nil => simp
  | cons y r =>
    have e : ((y :: r).toArray : Array Value).isEmpty = false := by simp
    rw [e, if_neg Bool.false_ne_true]
    have := foldl_arr (y :: r) x.toNat []
    rw [show ((#[] : Array Value)) = ([] : List Value).toArray from rfl, this]
    rfl
theorem Fm.kept_new {I h h' : Heap} {L T : Addr} {o : Obj} {m : Str → Option Value} {mu : Led} (F : Fm I L h m mu) (hn : h'.Ns L m) (k : ∀ b o, b ≠ L → h.get? b = some o → h'.get? b = some o) (nT : h.get? T = none) (eT : h'.get? T = some o) : Fm I L h' m ((T, o) :: mu) :=
  (F.kept hn k).add eT (fun q => by obtain ⟨oL, _, _, hL, _⟩ := F.ns; rw [← q, nT] at hL; cases hL) (isNone_of fun o' e => by have := F.keep _ _ e; rw [nT] at this; cases this)
    fun hm => by obtain ⟨p, hp, e⟩ := List.mem_map.mp hm; have := (F.mus p hp).1; rw [e, nT] at this; cases this
theorem IntsAre.drop' {vs : List Value} {ns : List Int} (h : IntsAre vs ns) (k : Nat) : IntsAre (vs.drop k) (ns.drop k) := PyProof.Rows.IntsAre.drop h k
set_option maxHeartbeats 4000000 in
theorem bodyD2a (w : World) (mg mb : Str → Option Value) :
  ∀ (l lks zs : List Nat → List Value) (len : Nat) (rowf : Nat → List Int) (lik : List Int) (lkv czs : List Value) (cla D L : Addr) (kD kc : Nat) (A : Around) (I h : Heap) (m : Str → Option Value) (g : Array GenState) (d : Drawn) (tk : Nat) (os : OsState) (mu : Led) (Q : Flow → Shared → Prop) (Er : Value → Shared → Prop),
    Gd w mg mb I → Rm A 12 120 → len ≤ 10 → (∀ j, j < len → 1 ≤ (rowf j).length ∧ (rowf j).length ≤ 20) → CellAt I (L + 8) (.ref D) → I.get? D = some (listO lkv kD) → IntsAre lkv lik → I.get? cla = some (listO czs kc) → ListsIn I czs rowf len →
    Fm I L h m mu → m (Str.ofString "classes") = some (.ref cla) →
    (∀ (I' h' : Heap) m' du dk tk', I.StaysIn I' → (∀ x, x ≠ Str.ofString "due" → m' x = m x) → m' (Str.ofString "due") = some (.ref du) →
      I'.get? du = some (listO (List.replicate 3 (((List.range len).filter fun j => decide ((rowf j).drop 1 = lik)).map fun j => czs.getD j .none)).flatten dk) → Fm I' L h' m' mu →
      wpAny (model PySem.Challenge.rw_in0106_01.row.prog w) A (execs ((loopB (K₀ w) 166 9).drop 5) (ev w L)) Q Er ⟨h', g, d, tk', os⟩) →
    wpAny (model PySem.Challenge.rw_in0106_01.row.prog w) A (execs ((loopB (K₀ w) 166 9).drop 4) (ev w L)) Q Er ⟨h, g, d, tk, os⟩ := by
  intro _ _ _ len rowf lik lkv czs cla D L kD kc A I h m g d tk os mu Q Er G rm hn10 hrow c8 hD hlik hcla hcs F mc hret
  refine' loop_is (B := [?s0, ?s1, ?s2, ?s3, ?s4, ?s5, ?s6, ?s7, ?s8]) (S := ⟨?k, ?n, ?g, ?c, ?m⟩) ?hB ?hS ?_
  case hB => exact rfl
  case hS => exact rfl
  dsimp only [List.drop]
  obtain ⟨o8, e8, d8⟩ := c8
  walk_at "m"
  walk_at "m"
  walk_at "m"
  have hcl : czs.length = len := hcs.1
  refine comp_list (g := g) (d := d) (os := os) (cl := [(Str.ofString "like", L + 8)]) rm.handled rfl (by decide) rfl (by decide) (by decide +kernel) (fun _ => rfl) ?_
  walk_at "mL"
  refine ⟨h, _, cla, czs.toArray, fun i ys _ => ys = ((List.range i).filter fun j => decide ((rowf j).drop 1 = lik)).map fun j => czs.getD j .none, I, L, m, mu, rfl, rfl, isListO (F.keep _ _ hcla), by rw [List.size_toArray, sizeLine_eq]; omega, F, rfl, ?_, ?_⟩
  · intro C i v ys I1 h1 tk1 E1 m1 hi hv hys hI1 hI1h hns hm
    have hi : i < len := by simpa [hcl] using hi
    have k1 : I.StaysIn h1 := fun b o e => hI1h _ _ (hI1 _ _ e)
    obtain ⟨T, vs, kT, ev, eT, hvs⟩ := hcs.2 i hi
    have hv : czs[i]? = some v := by simpa using hv
    rw [ev] at hv
    cases hv
    obtain ⟨hr1, hr2⟩ := hrow i hi
    have hvl := hvs.length
    refine turn_if ?_
    walk_at "m"
    refine sliceDrop ?_
    refine ldNs hns hm ?_ rfl rfl rfl
    walk_at "m"
    refine ⟨T, vs, kT, 1, _, rfl, k1 _ _ eT, by omega, by omega, rfl, fun T2 h2 k2 n2 e2 => ?_⟩
    refine ldCell (c := L + 8) rfl (k2 _ _ (k1 _ _ e8)) d8 ?_ rfl rfl rfl
    refine SeqAt.compareEq_reads (reads_dI e2 rfl rfl (IntsAre.drop' hvs 1)) (reads_dI (k2 _ _ (k1 _ _ hD)) rfl rfl hlik) (lay_dI _) (lay_dI _) (by have := dep_dI ((rowf i).drop 1); have := rm.units; omega) ?_
    rw [eqv_dI]
    walk_at "m"
    have e := filt_snoc (fun j => decide ((rowf j).drop 1 = lik)) (fun j => czs.getD j .none) i
    have eg : czs.getD i .none = .ref T := by rw [List.getD_eq_getElem?_getD, ev]; rfl
    rw [eg] at e
    refine ⟨h2, _, rfl, k2, ?_⟩
    by_cases q : decide ((rowf i).drop 1 = lik) = true
    · rw [if_pos q]
      rw [if_pos q] at e
      refine ldNs (hns.keeps k2) hm ?_ rfl rfl rfl
      refine elt_pure (Inv := fun ys mu I => mu = [] ∧ ys = ((List.range (i + 1)).filter fun j => decide ((rowf j).drop 1 = lik)).map fun j => czs.getD j .none) (fun _ _ e => e) fun I' _ _ => ⟨rfl, ?_⟩
      rw [e, hys]
    · rw [if_neg q]
      rw [if_neg q, List.append_nil] at e
      intro I' _
      refine ⟨rfl, ?_⟩
      show ys = ((List.range (i + 1)).filter fun j => decide ((rowf j).drop 1 = lik)).map fun j => czs.getD j .none
      rw [e, hys]
  · intro D2 ys I1 h1 tk1 k1 hys hI1 _ F1 hyl
    have hyl : ys.length ≤ 10 := by rw [List.size_toArray, hcl] at hyl; omega
    rw [List.size_toArray, hcl] at hys
    walk_at "m"
    refine mulListN F1.ns (F1.get (.head _)) (by decide) (by decide) (by omega) fun du h2 ns2 k2 n2 e2 => ?_
    have F2 := (F1.tail).kept_new ns2 k2 n2 e2
    walk_at "mS"
    intro h3 F3
    obtain ⟨I4, kI4, F4, e4⟩ := F3.settle 0 rfl
    try dsimp only
    rw [hys] at e4
    exact hret I4 h3 _ du 0 _ (fun b o e => kI4 _ _ (hI1 _ _ e)) (fun x hx => if_neg hx) (if_pos rfl) e4 F4

section
variable {prog : Program} {w : World} {A : Around} {E : Value → Shared → Prop} {g : Array GenState} {d : Drawn} {os : OsState} {env : Env}
/-- a comprehension over a range, stored under a name of the frame, whose turns may turn what the frame turns -/
theorem comp_asg {elt iter : Expr} {x y : Str} {px py : Pos} {ifs : List Expr} {scope : Scope} {cl : List (Str × Addr)} {pos spos : Pos} {Q : Flow → Shared → Prop} {s : Shared} (hh : A.handled = none)
    (hsw : swapsWith (.ListComp elt [⟨.Name x px, iter, ifs, 0⟩] scope pos) (some (.Name y py)) spos.line env = pure true)
    (hclos : closureFor scope env = pure cl) (hcell : ∀ z ∈ scope.names, z.2 ≠ .cell) (hkind : scope.kind = .function)
    (hnames : ∀ z ∈ scope.names, z.2 = .local → scope.names.lookup z.1 = some .local) (hx : scope.names.lookup x = some .local)
    (hy : env.kindOf y = some .local) (hek : env.scope.kind = .function)
    (hs : ∀ x, foldedSetIterable iter env x = pure x)
    (h : wpAny (model prog w) A (eval iter env) (fun xv s₁ => ∃ (h : Heap) (tk : Nat) (r : Addr) (n : Nat) (t u v : Tok) (Inv : Nat → List Value → Led → Heap → Prop) (I0 : Heap) (m : Str → Option Value) (mu0 : Led), s₁ = ⟨h, g, d, tk, os⟩ ∧ xv = .ref r ∧ IsRange h r 0 (n : Nat) 1 t u v ∧ n ≤ 1000 ∧ Fm I0 env.locals h m mu0 ∧ Inv 0 [] mu0 I0 ∧
      (∀ C i ti ys mu I h₁ tk₁ E' m₁, i < n → Inv i ys mu I → I0.StaysIn I → I.StaysIn h₁ → mu.map (·.1) = mu0.map (·.1) → (∀ p ∈ mu, h₁.get? p.1 = some p.2) → h₁.Ns C m₁ → m₁ x = some (.int (i : Nat) ti) → Turn prog w A E' g d os (compEnvC scope cl C env) elt ifs (Inv (i + 1)) ys mu I h₁ tk₁) ∧
      (∀ D ys mu I I'' h' tk' k, Inv n ys mu I → (∀ b o, I.get? b = some o → b ∉ mu.map (·.1) → I''.get? b = some o) → I0.StaysIn I'' → Fm I'' env.locals h' (fun z => if z = y then some (.ref D) else m z) ((D, listO ys k) :: mu) → ys.length ≤ n → Q .next ⟨h', g, d, tk', os⟩)) E s) :
    wpAny (model prog w) A (exec (.Assign [.Name y py] (.ListComp elt [⟨.Name x px, iter, ifs, 0⟩] scope pos) spos) env) Q E s := by
  refine comp_assign (g := g) (d := d) (os := os) hsw hclos hcell hkind hnames hx hy hek hs (wpAny_mono h (fun xv s₁ h₁ => ?_) fun _ _ e => e)
  obtain ⟨h, tk, r, n, t, u, v, Inv, I0, m, mu0, rfl, rfl, hr, hz, F, hi0, turn, fin⟩ := h₁
  refine iter_range_obj (n := n) hr (by rw [rangeSize_one]; split <;> omega) (small_one (by omega) (by omega) (by omega) (by omega)) fun It h6 k6 l6 hst => ?_
  have hIt : h.get? It = none := isNone_of fun o e => absurd (Heap.lt_size e) (Nat.not_lt.mpr l6)
  have nIt : ∀ b o, h.get? b = some o → b ∉ [It] := fun b o e hm => by rw [List.mem_singleton.mp hm, hIt] at e; cases e
  refine ⟨h6, n, Inv, I0, mu0, [It], [env.locals], tk, m, rfl, ⟨It, [It], _, _, rfl, Walks.range hh It 0 1 n, ?_, by rw [sizeLine_eq]; omega, hst, ?_, fun b o e => k6 _ _ (F.keep _ _ e), ?_, ?_, hi0, ?_, ?_⟩, .head _, F.ns.keeps k6, ?_⟩
  · exact fun i h st b hb => by rw [List.mem_singleton.mp hb]; exact ⟨_, st⟩
  · exact fun b hb => by rw [List.mem_singleton.mp hb]; exact Heap.lt_size hst
  · exact fun b hb => by rw [List.mem_singleton.mp hb]; exact isNone_of fun o e => by have := F.keep _ _ e; rw [hIt] at this; cases this
  · exact fun p hp => ⟨k6 _ _ (F.mus p hp).1, nIt _ _ (F.mus p hp).1, (F.mus p hp).2.2⟩
  · intro b hb
    rw [List.mem_singleton.mp hb]
    obtain ⟨oL, _, _, eL, _⟩ := F.ns
    refine ⟨⟨oL, k6 _ _ eL⟩, nIt _ _ eL, fun hm => ?_, F.out⟩
    obtain ⟨p, hp, e⟩ := List.mem_map.mp hm
    exact (F.mus p hp).2.1 e
  · rintro C i v ys mu I h₁ tk₁ E' hC hi ⟨tv, rfl⟩ hv2 hII hI hm hmu ⟨m₁, hn, hm1⟩
    have e : (0 : Int) + (i : Int) * 1 = (i : Int) := by omega
    rw [e] at hm1
    exact turn C i tv ys mu I h₁ tk₁ E' m₁ hi hv2 hII hI hm hmu hn hm1
  · rintro D ys mu I h7 tk7 hys hII hI ⟨k, hD⟩ hl7 hm hmu hnD iD hxx hk hns
    have hnD0 : h.get? D = none := isNone_of fun o e => by have := k6 _ _ e; rw [hnD] at this; cases this
    have mem : ∀ p ∈ mu, ∃ q ∈ mu0, q.1 = p.1 := fun p hp => by
      have : p.1 ∈ mu.map (·.1) := List.mem_map_of_mem hp
      rw [hm] at this
      exact List.mem_map.mp this
    have up : ∀ b o, I.get? b = some o → b ∉ mu.map (·.1) → (hideAll I (mu.map (·.1))).get? b = some o := fun b o e hb => hideAll_get _ e hb
    refine fin D ys mu I (hideAll I (mu.map (·.1))) h7 tk7 k hys up (fun b o e => up b o (hII _ _ e) (fun hb => by
      obtain ⟨p, hp, e1⟩ := List.mem_map.mp hb
      obtain ⟨q, hq, e2⟩ := mem p hp
      have := (F.mus q hq).2.2
      rw [e2, e1, e] at this; cases this)) ?_ hl7
    have iL : (hideAll I (mu.map (·.1))).get? env.locals = none := isNone_of fun o e => by have := of_hideAll _ e; rw [hxx _ (.head _)] at this; cases this
    have F' : Fm (hideAll I (mu.map (·.1))) env.locals h7 (fun z => if z = y then some (.ref D) else m z) mu := by
      refine ⟨hns, fun b o e => hI _ _ (of_hideAll _ e), iL, fun p hp => ⟨hmu p hp, fun e => ?_, hideAll_none _ (List.mem_map_of_mem hp)⟩, by rw [hm]; exact F.nd⟩
      obtain ⟨q, hq, e2⟩ := mem p hp
      exact (F.mus q hq).2.1 (e2.trans e)
    refine F'.add hD (fun q => ?_) (isNone_of fun o e => by have := of_hideAll _ e; rw [iD] at this; cases this) fun hb => ?_
    · obtain ⟨oL, _, _, eL, _⟩ := F.ns
      rw [← q, hnD0] at eL; cases eL
    · obtain ⟨p, hp, e⟩ := List.mem_map.mp hb
      obtain ⟨q, hq, e2⟩ := mem p hp
      have := (F.mus q hq).1
      rw [e2, e, hnD0] at this; cases this
end
/-- a list of lists, read -/
theorem reads_rows {h : Heap} : ∀ {vs : List Value} {rows : List (List Int)}, vs.length = rows.length → (∀ j v, vs[j]? = some v → ∃ T us k, v = .ref T ∧ h.get? T = some (listO us k) ∧ IntsAre us (rows.getD j [])) → ∃ as, ReadsAll h vs (rows.map dI) as
  | [], [], _, _ => ⟨_, .nil⟩
  | v :: vs, r :: rows, hl, H => by
    obtain ⟨T, us, k, rfl, e, hi⟩ := H 0 v rfl
    obtain ⟨as, R⟩ := reads_rows (vs := vs) (rows := rows) (by simpa using hl) fun j w hw => by
      have := H (j + 1) w (by simpa using hw)
      simpa using this
    exact ⟨_, .cons (reads_dI e rfl rfl (by simpa using hi)) R⟩
theorem reads_dII {h : Heap} {a : Addr} {vs : List Value} {k : Nat} {rows : List (List Int)} (e : h.get? a = some (listO vs k)) (hl : vs.length = rows.length) (H : ∀ j v, vs[j]? = some v → ∃ T us k, v = .ref T ∧ h.get? T = some (listO us k) ∧ IntsAre us (rows.getD j [])) : ∃ as, Reads h (.ref a) (dII rows) as := by
  obtain ⟨as, R⟩ := reads_rows hl H
  exact ⟨_, .list e rfl rfl (by simpa using R)⟩

set_option maxHeartbeats 4000000 in
theorem bodyD3 (w : World) (mg mb : Str → Option Value) :
  ∀ (E : List (List Nat)) (b lam ma la ca pa fz L cla : Addr) (rows : List RowH) (rowf : Nat → List Int) (len : Nat) (czs : List Value) (kc : Nat) (A : Around) (I h : Heap) (m : Str → Option Value) (mu : Led) (g : Array GenState) (d : Drawn) (tk : Nat) (os : OsState) (Q : Flow → Shared → Prop) (Er : Value → Shared → Prop),
    BaseC w mg mb I L E b lam ma la ca pa fz rows → Rm A 12 120 → 
    m (Str.ofString "classes") = some (.ref cla) → I.get? cla = some (listO czs kc) → ListsIn I czs rowf len → rows.length = len → (∀ j r, rows[j]? = some r → IntsAre r.items (rowf j)) → len ≤ 10 →
    Fm I L h m mu →
    (∀ (h' : Heap) tk', Fm I L h' m mu → Q .next ⟨h', g, d, tk', os⟩) →
    wpAny (model PySem.Challenge.rw_in0106_01.row.prog w) A (execs ((loopB (K₀ w) 166 9).drop 8) (ev w L)) Q Er ⟨h, g, d, tk, os⟩ := by
  intro E b lam ma la ca pa fz L cla rows rowf len czs kc A I h m mu g d tk os Q Er C rm mc hcla hcs hrl hrows hn10 F hret
  refine' loop_is (B := [?s0, ?s1, ?s2, ?s3, ?s4, ?s5, ?s6, ?s7, ?s8]) (S := ⟨?k, ?n, ?g, ?c, ?m⟩) ?hB ?hS ?_
  case hB => exact rfl
  case hS => exact rfl
  dsimp only [List.drop]
  have G := C.base.gd
  obtain ⟨mrange, mlen, mtuple, mgetattr, msuper, mlist⟩ := mg_facts G
  obtain ⟨ob, hob, dob⟩ := C.base.cb
  obtain ⟨dx, as, na, nb, hbk, hdx, hfz, hvl⟩ := C.book
  have G1 := G.keeps F.keep
  walk_at "m"
  walk_at "m"
  walk_at "m"
  walk_at "mCall"
  walk_at "mB"
  walk_at "mArgT"
  refine wpAny_items_cons ?_ rfl
  walk_at "mMeth"
  refine ldCell (c := L + 1) rfl (F.keep _ _ hob) dob ?_ rfl rfl rfl
  refine book_method G1.kin (F.keep _ _ hbk) (F.keep _ _ hdx) (vl65 w) (Looks.of_pure ty_val) (.inr rfl) hvl ?_
  dsimp only
  refine callWith_method0 ?_
  refine book_values G1.kin (F.keep _ _ hbk) C.base.b65 ?_
  have F2 := F.push { cls := .type "dict_values", data := .fields #[.ref b] } rfl
  walk_at "m"
  refine book_list rm.handled ⟨_, F2.get (.head _), rfl, rfl⟩ (F2.keep _ _ hbk) (by rw [List.length_map]; omega) fun T h3 tk3 c3 k3 n3 e3 => ?_
  have F3 := F2.pure k3
  walk_at "mL"
  have ev : (rows.map RowH.entry).map (·.val) = rows.map fun r => Value.ref r.addr := by rw [List.map_map]; rfl
  rw [ev] at e3
  have kI : I.StaysIn h3 := F3.keep
  have lenR : ((List.range len).map rowf).length = len := by simp
  have getR : ∀ j, j < len → ((List.range len).map rowf).getD j [] = rowf j := fun j hj => by
    rw [List.getD_eq_getElem?_getD, List.getElem?_map, List.getElem?_range hj]; rfl
  obtain ⟨as3, R3⟩ := reads_dII (rows := (List.range len).map rowf) e3 (by simp [hrl]) (fun j v hv => by
    rw [List.getElem?_map] at hv
    obtain ⟨r, hr, e⟩ := Option.map_eq_some_iff.mp hv
    have hj : j < len := by rw [← hrl]; exact (List.getElem?_eq_some_iff.mp hr).1
    exact ⟨r.addr, r.items, r.cap, e.symm, kI _ _ (C.rowsI r (List.mem_of_getElem? hr)), by rw [getR j hj]; exact hrows j r hr⟩)
  obtain ⟨as4, R4⟩ := reads_dII (rows := (List.range len).map rowf) (kI _ _ hcla) (by rw [lenR]; exact hcs.1) (fun j v hv => by
    have hj : j < len := by rw [← hcs.1]; exact (List.getElem?_eq_some_iff.mp hv).1
    obtain ⟨T', us, k, e1, e2, e4⟩ := hcs.2 j hj
    rw [hv] at e1
    exact ⟨T', us, k, Option.some.inj e1, kI _ _ e2, by rw [getR j hj]; exact e4⟩)
  refine SeqAt.compareNe_reads R3 R4 (lay_dII _) (lay_dII _) (by have := dep_dII ((List.range len).map rowf); have := rm.units; omega) ?_
  rw [eqv_dII, decide_eq_true rfl]
  walk_at "m"
  rw [show (!true) = false from rfl, if_neg Bool.false_ne_true]
  walk_at "m"
  try dsimp only
  walk_at "m"
  exact hret h3 _ F3.tail

set_option maxHeartbeats 4000000 in
theorem bodyD2f (w : World) (mg mb : Str → Option Value) :
  ∀ (E : List (List Nat)) (l : List Nat) (b lam ma la ca pa fz L x cla D du Tc : Addr) (rows : List RowH) (r : RowH) (row : List Int) (rowf : Nat → List Int) (len : Nat) (us lkv czs ysm : List Value) (ku kD kc km dk : Nat) (lik : List Int) (A : Around) (I h : Heap) (m : Str → Option Value) (g : Array GenState) (d : Drawn) (tk : Nat) (os : OsState) (Q : Flow → Shared → Prop) (Er : Value → Shared → Prop),
    BaseC w mg mb I L E b lam ma la ca pa fz rows → Rm A 12 120 → IsLead l → CellAt I (L + 6) (.ref x) → LeadAt I x l → CellAt I (L + 8) (.ref D) → I.get? D = some (listO lkv kD) → IntsAre lkv lik → lik ≠ [] →
    m (Str.ofString "due") = some (.ref du) → I.get? du = some (listO [.ref Tc, .ref Tc, .ref Tc] dk) → I.get? Tc = some (listO us ku) → IntsAre us row → r ∈ rows → IntsAre r.items row → findR rows (spellL (normL l)) = some (.ref r.addr) →
    m (Str.ofString "classes") = some (.ref cla) → I.get? cla = some (listO czs kc) → ListsIn I czs rowf len → rows.length = len → (∀ j r, rows[j]? = some r → IntsAre r.items (rowf j)) → len ≤ 10 →
    Fm I L h m [(ma, listO ysm km)] → ysm.length ≤ 900 →
    (∀ (I' h' : Heap) m' tk', I.StaysIn I' → (∀ y, y ≠ Str.ofString "told" → m' y = m y) → Fm I' L h' m' [(ma, listO ysm km)] → Q .next ⟨h', g, d, tk', os⟩) →
    wpAny (model PySem.Challenge.rw_in0106_01.row.prog w) A (execs ((loopB (K₀ w) 166 9).drop 5) (ev w L)) Q Er ⟨h, g, d, tk, os⟩ := by
  intro E l b lam ma la ca pa fz L x cla D du Tc rows r row rowf len us lkv czs ysm ku kD kc km dk lik A I h m g d tk os Q Er C rm hl c6 Lx c8 hD hlik likne mdu hdu hTc hus hr hri hfind mc hcla hcs hrl hrows hn10 F hyl hret
  refine' loop_is (B := [?s0, ?s1, ?s2, ?s3, ?s4, ?s5, ?s6, ?s7, ?s8]) (S := ⟨?k, ?n, ?g, ?c, ?m⟩) ?hB ?hS ?_
  case hB => exact rfl
  case hS => exact rfl
  dsimp only [List.drop]
  have G := C.base.gd
  obtain ⟨mrange, mlen, mtuple, mgetattr, msuper, mlist⟩ := mg_facts G
  obtain ⟨glead, gcolumns, gspelled, gnumbered, glook, gws, gfdd⟩ := mg_own G
  obtain ⟨o6, e6, d6⟩ := c6
  obtain ⟨o8, e8, d8⟩ := c8
  obtain ⟨ob, hob, dob⟩ := C.base.cb
  obtain ⟨dx, as, na, nb, hbk, hdx, hfz, hvl⟩ := C.book
  have Ima := (F.mus (ma, listO ysm km) (.head _)).2.2
  have three : ∀ {h : Heap} {T : Addr} {us : List Value} {k : Nat}, h.get? T = some (listO us k) → IntsAre us row → ∀ (j : Nat) (v : Value), [Value.ref T, .ref T, .ref T][j]? = some v → ∃ T' us' k', v = .ref T' ∧ h.get? T' = some (listO us' k') ∧ IntsAre us' ([row, row, row].getD j []) := by
    intro h T us k e hi j v hv
    match j, hv with
    | 0, hv => cases hv; exact ⟨T, us, k, rfl, e, hi⟩
    | 1, hv => cases hv; exact ⟨T, us, k, rfl, e, hi⟩
    | 2, hv => cases hv; exact ⟨T, us, k, rfl, e, hi⟩
    | n + 3, hv => simp at hv
  walk_at "m"
  walk_at "m"
  walk_at "m"
  walk_at "mL"
  refine listNew ?_
  refine wpAny_items_nil ⟨by decide, fun T1 h1 k1 n1 e1 => ?_⟩
  have F1 := F.pure k1
  obtain ⟨as1, R1⟩ := reads_dII (rows := [row, row, row]) (F1.keep _ _ hdu) rfl (three (F1.keep _ _ hTc) hus)
  obtain ⟨as2, R2⟩ := reads_dII (rows := []) e1 rfl (fun j v hv => by simp at hv)
  refine SeqAt.compareEq_reads R1 R2 (lay_dII _) (lay_dII _) (by have := dep_dII [row, row, row]; have := rm.units; omega) ?_
  rw [eqv_dII]
  walk_at "m"
  rw [if_neg (by simp)]
  walk_at "m"
  try dsimp only
  walk_at "m"
  refine comp_asg (g := g) (d := d) (os := os) (cl := [(Str.ofString "lead", L + 6), (Str.ofString "book", L + 1)]) rm.handled rfl rfl (by decide) rfl (by decide) (by decide +kernel) rfl rfl (fun _ => rfl) ?_
  walk_at "mCall"
  have G1 := G.keeps F1.keep
  walk_at "mB"
  walk_at "mArgT"
  refine wpAny_items_cons ?_ rfl
  walk_at "ms"
  refine call_range_1 ?_
  dsimp only
  refine ⟨_, _, _, 3, _, _, _, fun i ys mu _ => mu = [(ma, listO ysm km)] ∧ ys = List.replicate i (.ref r.addr), I, m, [(ma, listO ysm km)], rfl, rfl, IsRange.new .., by decide, F1.pure (stays_push _ _), ⟨rfl, rfl⟩, ?_, ?_⟩
  · rintro C2 i ti ys mu I2 h2 tk2 E2 m2 hi ⟨rfl, rfl⟩ hI2 hI2h _ hmu hns hm
    have k2 : I.StaysIn h2 := fun b o e => hI2h _ _ (hI2 _ _ e)
    have G2 := G.keeps k2
    refine turn_all ?_
    refine PyProof.Rows.Subscript_ ?_
    refine ldCell (c := L + 1) rfl (k2 _ _ hob) dob ?_ rfl rfl rfl
    walk_at "mCall"
    walk_at "mG"
    refine callWith_K (K := K₀ w) (h₀ := h2) G2.kin (by exact rfl) ?_ rfl rfl
    refine wpAny_items_cons ?_ rfl
    refine ldCell (c := L + 6) rfl (k2 _ _ e6) d6 ?_ rfl rfl rfl
    refine wpAny_items_nil ⟨G2.kin, ?_⟩
    show wpAny _ _ (call (.ref 154) [.ref x]) _ _ _
    refine wpAny_call (spelled_spec w mg mb l x _ h2 g d _ os _ G2 rm.le (Lx.keeps k2) (lead_nb hl) fun t4 h4 tk4 k4 => ?_)
    have k24 : I.StaysIn h4 := fun b o e => k4 _ _ (k2 _ _ e)
    have G4 := G.keeps k24
    try dsimp only
    refine item65 G4.kin (k24 _ _ hbk) rfl ?_
    refine look_frozen (I := I) (ys := ysm) (nm := km) (ma := ma) G4 rm.le (k24 _ _ hbk) (k24 _ _ hdx) C.base.b65 (all_entry rows) hfz (let ⟨a, b, c, d, e⟩ := C.fnz; ⟨a, b, c, d, k24 _ _ e⟩) k24 C.frz (k4 _ _ (hmu (ma, listO ysm km) (.head _))) (by omega) ?_ ?_
    · intro v hv
      have hv2 : findR rows (spellL (normL l)) = some v := hv
      rw [hfind] at hv2
      cases hv2
      refine ⟨h4, _, [(ma, listO ysm km)], rfl, rfl, fun p hp => k4 _ _ (hmu p hp), fun b o _ e => k4 b o e, fun I' _ _ => ⟨rfl, ?_⟩⟩
      rw [List.replicate_succ']
    · intro hn
      have hn2 : findR rows (spellL (normL l)) = none := hn
      rw [hfind] at hn2; cases hn2
  · rintro D2 ys mu I2 I3 h2 tk2 k2 ⟨rfl, rfl⟩ hup hI3 F2 _
    have k32 : I.StaysIn h2 := fun b o e => F2.keep _ _ (hI3 _ _ e)
    have G2 := G.keeps k32
    have eD2 : h2.get? D2 = some (listO [.ref r.addr, .ref r.addr, .ref r.addr] k2) := F2.get (.head _)
    obtain ⟨as3, R3⟩ := reads_dII (rows := [row, row, row]) eD2 rfl (three (k32 _ _ (C.rowsI r hr)) hri)
    obtain ⟨as4, R4⟩ := reads_dII (rows := [row, row, row]) (k32 _ _ hdu) rfl (three (k32 _ _ hTc) hus)
    walk_at "m"
    walk_at "m"
    refine wpAny_isTrue_BoolOp (wpAny_allTrue_Or_cons ?_)
    walk_at "m"
    walk_at "mL"
    walk_at "mL"
    refine SeqAt.compareNe_reads R3 R4 (lay_dII _) (lay_dII _) (by have := dep_dII [row, row, row]; have := rm.units; omega) ?_
    rw [eqv_dII, decide_eq_true rfl]
    walk_at "m"
    rw [show (!true) = false from rfl, if_neg Bool.false_ne_true]
    refine wpAny_allTrue_Or_cons ?_
    walk_at "m"
    walk_at "m"
    refine PyProof.Rows.Subscript_ ?_
    walk_at "mL"
    walk_at "m"
    refine itemL (i := 1) (isListO eD2) rfl (by decide) ?_
    refine PyProof.Rows.Subscript_ ?_
    walk_at "mL"
    walk_at "m"
    refine itemL (i := 0) (isListO eD2) rfl (by decide) ?_
    refine wpAny_is_ref_self ?_
    walk_at "m"
    refine ldCell (c := L + 8) rfl (k32 _ _ e8) d8 ?_ rfl rfl rfl
    refine listNew ?_
    refine wpAny_items_nil ⟨by decide, fun T3 h3 k3 n3 e3 => ?_⟩
    refine SeqAt.compareNe_reads (reads_dI (k3 _ _ (k32 _ _ hD)) rfl rfl hlik) (reads_dI e3 rfl rfl ints_nil) (lay_dI _) (lay_dI _) (by have := dep_dI lik; have := rm.units; omega) ?_
    rw [eqv_dI, decide_eq_false likne]
    refine PyProof.Rows.ne_bool ?_
    walk_at "m"
    rw [show (true != !false) = false from rfl, if_neg Bool.false_ne_true]
    refine wpAny_allTrue_Or_cons ?_
    walk_at "m"
    walk_at "m"
    refine PyProof.Rows.Subscript_ ?_
    refine ldNs (F2.ns.keeps k3) (if_pos rfl) ?_ rfl rfl rfl
    walk_at "m"
    refine itemL (i := 2) (isListO (k3 _ _ eD2)) rfl (by decide) ?_
    refine PyProof.Rows.Subscript_ ?_
    refine ldNs (F2.ns.keeps k3) (if_pos rfl) ?_ rfl rfl rfl
    walk_at "m"
    refine itemL (i := 0) (isListO (k3 _ _ eD2)) rfl (by decide) ?_
    refine wpAny_is_ref_self ?_
    walk_at "m"
    refine ldCell (c := L + 8) rfl (k3 _ _ (k32 _ _ e8)) d8 ?_ rfl rfl rfl
    refine listNew ?_
    refine wpAny_items_nil ⟨by decide, fun T5 h5 k5 n5 e5 => ?_⟩
    refine SeqAt.compareNe_reads (reads_dI (k5 _ _ (k3 _ _ (k32 _ _ hD))) rfl rfl hlik) (reads_dI e5 rfl rfl ints_nil) (lay_dI _) (lay_dI _) (by have := dep_dI lik; have := rm.units; omega) ?_
    rw [eqv_dI, decide_eq_false likne]
    refine PyProof.Rows.ne_bool ?_
    walk_at "m"
    rw [show (true != !false) = false from rfl, if_neg Bool.false_ne_true]
    refine wpAny_allTrue_Or_nil ?_
    rw [if_neg Bool.false_ne_true]
    walk_at "m"
    have F5 := ((F2.tail).pure k3).pure k5
    exact bodyD3 w mg mb E b lam ma la ca pa fz L cla rows rowf len czs kc A I3 h5 _ _ g d _ os Q Er (C.keeps hI3) rm ((if_neg (by decide +kernel)).trans mc) (hI3 _ _ hcla) (hcs.keeps hI3) hrl hrows hn10 F5 fun h' tk' F' => hret I3 h' _ tk' hI3 (fun y hy => if_neg hy) F'

set_option maxHeartbeats 4000000 in
theorem bodyD2n5 (w : World) (mg mb : Str → Option Value) :
  ∀ (E : List (List Nat)) (b lam ma la ca pa fz L du : Addr) (rows : List RowH) (ysm : List Value) (km dk : Nat) (A : Around) (I h : Heap) (m : Str → Option Value) (g : Array GenState) (d : Drawn) (tk : Nat) (os : OsState) (Q : Flow → Shared → Prop) (Er : Value → Shared → Prop),
    BaseC w mg mb I L E b lam ma la ca pa fz rows → Rm A 12 120 → m (Str.ofString "due") = some (.ref du) → I.get? du = some (listO [] dk) →
    Fm I L h m [(ma, listO ysm km)] → ysm.length ≤ 900 →
    (∀ (I' h' : Heap) m' U0 U1 U2 t0 t1 t2 du2 tk', I.StaysIn I' → (∀ y, y ≠ Str.ofString "due" → m' y = m y) → m' (Str.ofString "due") = some (.ref du2) → I'.get? du2 = some (listO [.ref U0, .ref U1, .ref U2] 0) →
      I'.get? U0 = some (listO [.int (ysm.length : Int) t0] 0) → I'.get? U1 = some (listO [.int ((ysm.length : Int) + 1) t1] 0) → I'.get? U2 = some (listO [.int ((ysm.length : Int) + 2) t2] 0) → Fm I' L h' m' [(ma, listO ysm km)] →
      wpAny (model PySem.Challenge.rw_in0106_01.row.prog w) A (execs ((loopB (K₀ w) 166 9).drop 6) (ev w L)) Q Er ⟨h', g, d, tk', os⟩) →
    wpAny (model PySem.Challenge.rw_in0106_01.row.prog w) A (execs ((loopB (K₀ w) 166 9).drop 5) (ev w L)) Q Er ⟨h, g, d, tk, os⟩ := by
  intro E b lam ma la ca pa fz L du rows ysm km dk A I h m g d tk os Q Er C rm mdu hdu F hyl hret
  refine' loop_is (B := [?s0, ?s1, ?s2, ?s3, ?s4, ?s5, ?s6, ?s7, ?s8]) (S := ⟨?k, ?n, ?g, ?c, ?m⟩) ?hB ?hS ?_
  case hB => exact rfl
  case hS => exact rfl
  dsimp only [List.drop]
  have G := C.base.gd
  obtain ⟨mrange, mlen, mtuple, mgetattr, msuper, mlist⟩ := mg_facts G
  obtain ⟨glead, gcolumns, gspelled, gnumbered, glook, gws, gfdd⟩ := mg_own G
  obtain ⟨o9, e9, d9⟩ := C.base.cm
  walk_at "m"
  walk_at "m"
  walk_at "m"
  walk_at "mL"
  refine listNew ?_
  refine wpAny_items_nil ⟨by decide, fun T1 h1 k1 n1 e1 => ?_⟩
  have F1 := F.pure k1
  obtain ⟨as1, R1⟩ := reads_dII (rows := []) (F1.keep _ _ hdu) rfl (fun j v hv => by simp at hv)
  obtain ⟨as2, R2⟩ := reads_dII (rows := []) e1 rfl (fun j v hv => by simp at hv)
  refine SeqAt.compareEq_reads R1 R2 (lay_dII _) (lay_dII _) (by have := dep_dII []; have := rm.units; omega) ?_
  rw [eqv_dII, decide_eq_true rfl]
  walk_at "m"
  rw [if_pos rfl]
  walk_at "m"
  walk_at "m"
  have G1 := G.keeps F1.keep
  have esz : ysm.toArray.size = ysm.length := by simp
  clear F
  refine listNew ?_
  refine wpAny_items_cons ?_ rfl
  refine listNew ?_
  refine wpAny_items_cons ?_ rfl
  walk_at "mCall"
  walk_at "mB"
  walk_at "mArgB"
  refine wpAny_items_cons ?_ rfl
  refine ldCell (c := L + 9) rfl (F1.keep _ _ e9) d9 ?_ rfl rfl rfl
  refine wpAny_items_nil ?_
  refine len_list (isListO (F1.get (.head _))) (by omega) ?_
  refine wpAny_items_nil ⟨by rw [sizeLine_eq]; simp, fun U0 h2 k2 n2 u0 => ?_⟩
  obtain ⟨t0, w0⟩ : ∃ t, h2.get? U0 = some (listO [.int (ysm.length : Int) t] 0) := ⟨_, by rw [← esz]; exact u0⟩
  clear u0
  have F2 := F1.new k2 n2 w0
  have G2 := G.keeps F2.keep
  clear F1
  refine wpAny_items_cons ?_ rfl
  refine listNew ?_
  refine wpAny_items_cons ?_ rfl
  walk_at "m"
  walk_at "mCall"
  walk_at "mB"
  walk_at "mArgB"
  refine wpAny_items_cons ?_ rfl
  refine ldCell (c := L + 9) rfl (F2.keep _ _ e9) d9 ?_ rfl rfl rfl
  refine wpAny_items_nil ?_
  refine len_list (isListO (F2.get (.tail _ (.head _)))) (by omega) ?_
  walk_at "m"
  walk_at "m"
  refine wpAny_items_nil ⟨by rw [sizeLine_eq]; simp, fun U1 h3 k3 n3 u1 => ?_⟩
  obtain ⟨t1, w1⟩ : ∃ t, h3.get? U1 = some (listO [.int ((ysm.length : Int) + 1) t] 0) := ⟨_, by rw [← esz]; exact u1⟩
  clear u1
  have F3 := F2.new k3 n3 w1
  have G3 := G.keeps F3.keep
  clear F2
  refine wpAny_items_cons ?_ rfl
  refine listNew ?_
  refine wpAny_items_cons ?_ rfl
  walk_at "m"
  walk_at "mCall"
  walk_at "mB"
  walk_at "mArgB"
  refine wpAny_items_cons ?_ rfl
  refine ldCell (c := L + 9) rfl (F3.keep _ _ e9) d9 ?_ rfl rfl rfl
  refine wpAny_items_nil ?_
  refine len_list (isListO (F3.get (.tail _ (.tail _ (.head _))))) (by omega) ?_
  walk_at "m"
  walk_at "m"
  refine wpAny_items_nil ⟨by rw [sizeLine_eq]; simp, fun U2 h4 k4 n4 u2 => ?_⟩
  obtain ⟨t2, w2⟩ : ∃ t, h4.get? U2 = some (listO [.int ((ysm.length : Int) + 2) t] 0) := ⟨_, by rw [← esz]; exact u2⟩
  clear u2
  have F4 := F3.new k4 n4 w2
  clear F3
  refine wpAny_items_nil ⟨by rw [sizeLine_eq]; simp, fun du2 h5 k5 n5 u5 => ?_⟩
  have F5 := F4.new k5 n5 u5
  clear F4
  walk_at "mS"
  intro h6 F6
  replace F6 : Fm I L h6 _ [(du2, listO [.ref U0, .ref U1, .ref U2] 0), (U2, listO [.int ((ysm.length : Int) + 2) t2] 0), (U1, listO [.int ((ysm.length : Int) + 1) t1] 0), (U0, listO [.int (ysm.length : Int) t0] 0), (ma, listO ysm km)] := F6
  refine Exists.elim (F6.settle (p := (du2, listO [.ref U0, .ref U1, .ref U2] 0)) 0 rfl) fun I7 hX => ?_
  have kI7 := hX.1
  have F7 := hX.2.1
  have x5 := hX.2.2
  clear hX
  replace F7 : Fm I7 L h6 _ [(U2, listO [.int ((ysm.length : Int) + 2) t2] 0), (U1, listO [.int ((ysm.length : Int) + 1) t1] 0), (U0, listO [.int (ysm.length : Int) t0] 0), (ma, listO ysm km)] := F7
  refine Exists.elim (F7.settle (p := (U2, listO [.int ((ysm.length : Int) + 2) t2] 0)) 0 rfl) fun I8 hX => ?_
  have kI8 := hX.1
  have F8 := hX.2.1
  have x2 := hX.2.2
  clear hX
  replace F8 : Fm I8 L h6 _ [(U1, listO [.int ((ysm.length : Int) + 1) t1] 0), (U0, listO [.int (ysm.length : Int) t0] 0), (ma, listO ysm km)] := F8
  refine Exists.elim (F8.settle (p := (U1, listO [.int ((ysm.length : Int) + 1) t1] 0)) 0 rfl) fun I9 hX => ?_
  have kI9 := hX.1
  have F9 := hX.2.1
  have x1 := hX.2.2
  clear hX
  replace F9 : Fm I9 L h6 _ [(U0, listO [.int (ysm.length : Int) t0] 0), (ma, listO ysm km)] := F9
  refine Exists.elim (F9.settle (p := (U0, listO [.int (ysm.length : Int) t0] 0)) 0 rfl) fun I10 hX => ?_
  have kI10 := hX.1
  have F10 := hX.2.1
  have x0 := hX.2.2
  clear hX
  replace F10 : Fm I10 L h6 _ [(ma, listO ysm km)] := F10
  walk_at "m"
  try dsimp only
  exact hret I10 h6 _ U0 U1 U2 t0 t1 t2 du2 _ (fun b o e => kI10 _ _ (kI9 _ _ (kI8 _ _ (kI7 _ _ e)))) (fun y hy => if_neg hy) (if_pos rfl) (kI10 _ _ (kI9 _ _ (kI8 _ _ x5))) x0 (kI10 _ _ x1) (kI10 _ _ (kI9 _ _ x2)) F10

set_option maxHeartbeats 4000000 in
theorem bodyD2n6 (w : World) (mg mb : Str → Option Value) :
  ∀ (E : List (List Nat)) (l : List Nat) (b lam ma la ca pa fz L x cla D du U0 U1 U2 : Addr) (u0 u1 u2 : Tok) (rows : List RowH) (rowf : Nat → List Int) (len : Nat) (lkv czs ysm : List Value) (kD kc km : Nat) (A : Around) (I h : Heap) (m : Str → Option Value) (g : Array GenState) (d : Drawn) (tk : Nat) (os : OsState) (Q : Flow → Shared → Prop) (Er : Value → Shared → Prop),
    BaseC w mg mb I L E b lam ma la ca pa fz rows → Rm A 12 120 → IsLead l → CellAt I (L + 6) (.ref x) → LeadAt I x l → CellAt I (L + 8) (.ref D) → I.get? D = some (listO lkv kD) → IntsAre lkv [] →
    m (Str.ofString "due") = some (.ref du) → I.get? du = some (listO [.ref U0, .ref U1, .ref U2] 0) → I.get? U0 = some (listO [.int (ysm.length : Int) u0] 0) → I.get? U1 = some (listO [.int ((ysm.length : Int) + 1) u1] 0) → I.get? U2 = some (listO [.int ((ysm.length : Int) + 2) u2] 0) →
    findR rows (spellL (normL l)) = none →
    m (Str.ofString "classes") = some (.ref cla) → I.get? cla = some (listO czs kc) → ListsIn I czs rowf len → rows.length = len → (∀ j r, rows[j]? = some r → IntsAre r.items (rowf j)) → len ≤ 10 →
    Fm I L h m [(ma, listO ysm km)] → ysm.length ≤ 900 →
    (∀ (I' h' : Heap) m' ysm' km' tk', I.StaysIn I' → (∀ y, y ≠ Str.ofString "told" → m' y = m y) → ysm'.length ≤ ysm.length + 3 → Fm I' L h' m' [(ma, listO ysm' km')] → Q .next ⟨h', g, d, tk', os⟩) →
    wpAny (model PySem.Challenge.rw_in0106_01.row.prog w) A (execs ((loopB (K₀ w) 166 9).drop 6) (ev w L)) Q Er ⟨h, g, d, tk, os⟩ := by
  intro E l b lam ma la ca pa fz L x cla D du U0 U1 U2 u0 u1 u2 rows rowf len lkv czs ysm kD kc km A I h m g d tk os Q Er C rm hl c6 Lx c8 hD hlik mdu hdu hU0 hU1 hU2 hfind mc hcla hcs hrl hrows hn10 F hyl hret
  refine' loop_is (B := [?s0, ?s1, ?s2, ?s3, ?s4, ?s5, ?s6, ?s7, ?s8]) (S := ⟨?k, ?n, ?g, ?c, ?m⟩) ?hB ?hS ?_
  case hB => exact rfl
  case hS => exact rfl
  dsimp only [List.drop]
  have G := C.base.gd
  obtain ⟨mrange, mlen, mtuple, mgetattr, msuper, mlist⟩ := mg_facts G
  obtain ⟨glead, gcolumns, gspelled, gnumbered, glook, gws, gfdd⟩ := mg_own G
  obtain ⟨o6, e6, d6⟩ := c6
  obtain ⟨o8, e8, d8⟩ := c8
  obtain ⟨ob, hob, dob⟩ := C.base.cb
  obtain ⟨dx, as, na, nb, hbk, hdx, hfz, hvl⟩ := C.book
  walk_at "m"
  refine comp_asg (g := g) (d := d) (os := os) (cl := [(Str.ofString "lead", L + 6), (Str.ofString "book", L + 1)]) rm.handled rfl rfl (by decide) rfl (by decide) (by decide +kernel) rfl rfl (fun _ => rfl) ?_
  walk_at "mCall"
  have G1 := G.keeps F.keep
  walk_at "mB"
  walk_at "mArgT"
  refine wpAny_items_cons ?_ rfl
  walk_at "ms"
  refine call_range_1 ?_
  dsimp only
  refine ⟨_, _, _, 3, _, _, _, fun i ys mu I' => ∃ ns km', mu = [(ma, listO (ysm ++ ns) km')] ∧ ns.length = i ∧ ys.length = i ∧ ∀ j, j < i → ∃ T t, ys[j]? = some (.ref T) ∧ T ≠ ma ∧ I'.get? T = some (listO [.int ((ysm.length + j : Nat) : Int) t] 0), I, m, [(ma, listO ysm km)], rfl, rfl, IsRange.new .., by decide, F.pure (stays_push _ _), ⟨[], km, by simp, rfl, rfl, fun j hj => absurd hj (Nat.not_lt_zero _)⟩, ?_, ?_⟩
  · rintro C2 i ti ys mu I2 h2 tk2 E2 m2 hi ⟨ns, km', rfl, hns, hysl, hys⟩ hI2 hI2h _ hmu hn2 hm
    have k2 : I.StaysIn h2 := fun b o e => hI2h _ _ (hI2 _ _ e)
    have G2 := G.keeps k2
    refine turn_all ?_
    refine PyProof.Rows.Subscript_ ?_
    refine ldCell (c := L + 1) rfl (k2 _ _ hob) dob ?_ rfl rfl rfl
    walk_at "mCall"
    walk_at "mG"
    refine callWith_K (K := K₀ w) (h₀ := h2) G2.kin (by exact rfl) ?_ rfl rfl
    refine wpAny_items_cons ?_ rfl
    refine ldCell (c := L + 6) rfl (k2 _ _ e6) d6 ?_ rfl rfl rfl
    refine wpAny_items_nil ⟨G2.kin, ?_⟩
    show wpAny _ _ (call (.ref 154) [.ref x]) _ _ _
    refine wpAny_call (spelled_spec w mg mb l x _ h2 g d _ os _ G2 rm.le (Lx.keeps k2) (lead_nb hl) fun t4 h4 tk4 k4 => ?_)
    have k24 : I.StaysIn h4 := fun b o e => k4 _ _ (k2 _ _ e)
    have G4 := G.keeps k24
    have hma4 : h4.get? ma = some (listO (ysm ++ ns) km') := k4 _ _ (hmu (ma, listO (ysm ++ ns) km') (.head _))
    have hln : (ysm ++ ns).length = ysm.length + i := by rw [List.length_append, hns]
    try dsimp only
    refine item65 G4.kin (k24 _ _ hbk) rfl ?_
    refine look_frozen (I := I) (ys := ysm ++ ns) (nm := km') (ma := ma) G4 rm.le (k24 _ _ hbk) (k24 _ _ hdx) C.base.b65 (all_entry rows) hfz (let ⟨a, b, c, d, e⟩ := C.fnz; ⟨a, b, c, d, k24 _ _ e⟩) k24 C.frz hma4 (by omega) ?_ ?_
    · intro v hv
      have hv2 : findR rows (spellL (normL l)) = some v := hv
      rw [hfind] at hv2
      cases hv2
    · intro _ T t n' h5 tk5 k5 e5 nT f5
      rw [hln] at e5 f5
      have Tma : T ≠ ma := fun q => by rw [q, hma4] at nT; cases nT
      refine ⟨h5, _, [(ma, listO (ysm ++ (ns ++ [.int ((ysm.length + i : Nat) : Int) t])) n')], rfl, rfl, fun p hp => by rw [List.mem_singleton.mp hp, ← List.append_assoc]; exact e5, fun b o hb e => k5 b o (fun q => hb (by simp [q])) (k4 _ _ e), fun I' hI' hnew => ⟨_, n', rfl, by simp [hns], by simp [hysl], fun j hj => ?_⟩⟩
      by_cases q : j < i
      · obtain ⟨T', t', a1, a2, a3⟩ := hys j q
        exact ⟨T', t', by rw [List.getElem?_append_left (by omega)]; exact a1, a2, hI' _ _ a3⟩
      · have : j = i := by omega
        subst this
        exact ⟨T, t, by rw [List.getElem?_append_right (by omega), hysl]; simp, Tma, hnew _ _ f5 (isNone_of fun o e => by have := k4 _ _ e; rw [nT] at this; cases this)⟩
  · rintro D2 ys mu I2 I3 h2 tk2 k2 ⟨ns, km', rfl, hns, hysl, hys⟩ hup hI3 F2 _
    have k32 : I.StaysIn h2 := fun b o e => F2.keep _ _ (hI3 _ _ e)
    obtain ⟨x0, x1, x2, rfl⟩ : ∃ a b c, ys = [a, b, c] := by
      match ys, hysl with
      | [a, b, c], _ => exact ⟨a, b, c, rfl⟩
    obtain ⟨T0, t0, a0, b0, c0⟩ := hys 0 (by decide)
    obtain ⟨T1, t1, a1, b1, c1⟩ := hys 1 (by decide)
    obtain ⟨T2, t2, a2, b2, c2⟩ := hys 2 (by decide)
    cases a0
    cases a1
    cases a2
    have q0 : ((ysm.length + 0 : Nat) : Int) = (ysm.length : Int) := by omega
    have q1 : ((ysm.length + 1 : Nat) : Int) = (ysm.length : Int) + 1 := by omega
    have q2 : ((ysm.length + 2 : Nat) : Int) = (ysm.length : Int) + 2 := by omega
    rw [q0] at c0
    rw [q1] at c1
    rw [q2] at c2
    have g0 := F2.keep _ _ (hup _ _ c0 (by simpa using b0))
    have g1 := F2.keep _ _ (hup _ _ c1 (by simpa using b1))
    have g2 := F2.keep _ _ (hup _ _ c2 (by simpa using b2))
    have ne1 : T1 ≠ T0 := fun q => by rw [q, c0] at c1; simp at c1; omega
    have ne2 : T2 ≠ T0 := fun q => by rw [q, c0] at c2; simp at c2; omega
    have three : ∀ {h : Heap} {V0 V1 V2 : Addr} {v0 v1 v2 : Tok}, h.get? V0 = some (listO [.int (ysm.length : Int) v0] 0) → h.get? V1 = some (listO [.int ((ysm.length : Int) + 1) v1] 0) → h.get? V2 = some (listO [.int ((ysm.length : Int) + 2) v2] 0) →
        ∀ (j : Nat) (v : Value), [Value.ref V0, .ref V1, .ref V2][j]? = some v → ∃ T' us' k', v = .ref T' ∧ h.get? T' = some (listO us' k') ∧ IntsAre us' ([[(ysm.length : Int)], [(ysm.length : Int) + 1], [(ysm.length : Int) + 2]].getD j []) := by
      intro h V0 V1 V2 v0 v1 v2 h0 h1 h2 j v hv
      match j, hv with
      | 0, hv => cases hv; exact ⟨_, _, _, rfl, h0, .cons _ _ .nil⟩
      | 1, hv => cases hv; exact ⟨_, _, _, rfl, h1, .cons _ _ .nil⟩
      | 2, hv => cases hv; exact ⟨_, _, _, rfl, h2, .cons _ _ .nil⟩
      | n + 3, hv => simp at hv
    have eD2 : h2.get? D2 = some (listO [.ref T0, .ref T1, .ref T2] k2) := F2.get (.head _)
    obtain ⟨as3, R3⟩ := reads_dII (rows := [[(ysm.length : Int)], [(ysm.length : Int) + 1], [(ysm.length : Int) + 2]]) eD2 rfl (three g0 g1 g2)
    obtain ⟨as4, R4⟩ := reads_dII (rows := [[(ysm.length : Int)], [(ysm.length : Int) + 1], [(ysm.length : Int) + 2]]) (k32 _ _ hdu) rfl (three (k32 _ _ hU0) (k32 _ _ hU1) (k32 _ _ hU2))
    walk_at "m"
    walk_at "m"
    refine wpAny_isTrue_BoolOp (wpAny_allTrue_Or_cons ?_)
    walk_at "m"
    walk_at "mL"
    walk_at "mL"
    refine SeqAt.compareNe_reads R3 R4 (lay_dII _) (lay_dII _) (by have := dep_dII [[(ysm.length : Int)], [(ysm.length : Int) + 1], [(ysm.length : Int) + 2]]; have := rm.units; omega) ?_
    rw [eqv_dII, decide_eq_true rfl]
    walk_at "m"
    rw [show (!true) = false from rfl, if_neg Bool.false_ne_true]
    refine wpAny_allTrue_Or_cons ?_
    walk_at "m"
    walk_at "m"
    refine PyProof.Rows.Subscript_ ?_
    refine ldNs F2.ns (if_pos rfl) ?_ rfl rfl rfl
    walk_at "m"
    refine itemL (i := 1) (isListO eD2) rfl (by decide) ?_
    refine PyProof.Rows.Subscript_ ?_
    refine ldNs F2.ns (if_pos rfl) ?_ rfl rfl rfl
    walk_at "m"
    refine itemL (i := 0) (isListO eD2) rfl (by decide) ?_
    refine wpAny_is_ref_other ne1 g1 g0 (show Value.type "list" ≠ Value.type "tuple" by decide) ?_
    walk_at "m"
    refine ldCell (c := L + 8) rfl (k32 _ _ e8) d8 ?_ rfl rfl rfl
    refine listNew ?_
    refine wpAny_items_nil ⟨by decide, fun V3 h3 k3 n3 e3 => ?_⟩
    refine SeqAt.compareNe_reads (reads_dI (k3 _ _ (k32 _ _ hD)) rfl rfl hlik) (reads_dI e3 rfl rfl ints_nil) (lay_dI _) (lay_dI _) (by have := dep_dI []; have := rm.units; omega) ?_
    rw [eqv_dI, decide_eq_true rfl]
    refine PyProof.Rows.ne_bool ?_
    walk_at "m"
    rw [show (false != !true) = false from rfl, if_neg Bool.false_ne_true]
    refine wpAny_allTrue_Or_cons ?_
    walk_at "m"
    walk_at "m"
    refine PyProof.Rows.Subscript_ ?_
    refine ldNs (F2.ns.keeps k3) (if_pos rfl) ?_ rfl rfl rfl
    walk_at "m"
    refine itemL (i := 2) (isListO (k3 _ _ eD2)) rfl (by decide) ?_
    refine PyProof.Rows.Subscript_ ?_
    refine ldNs (F2.ns.keeps k3) (if_pos rfl) ?_ rfl rfl rfl
    walk_at "m"
    refine itemL (i := 0) (isListO (k3 _ _ eD2)) rfl (by decide) ?_
    refine wpAny_is_ref_other ne2 (k3 _ _ g2) (k3 _ _ g0) (show Value.type "list" ≠ Value.type "tuple" by decide) ?_
    walk_at "m"
    refine ldCell (c := L + 8) rfl (k3 _ _ (k32 _ _ e8)) d8 ?_ rfl rfl rfl
    refine listNew ?_
    refine wpAny_items_nil ⟨by decide, fun V5 h5 k5 n5 e5 => ?_⟩
    refine SeqAt.compareNe_reads (reads_dI (k5 _ _ (k3 _ _ (k32 _ _ hD))) rfl rfl hlik) (reads_dI e5 rfl rfl ints_nil) (lay_dI _) (lay_dI _) (by have := dep_dI []; have := rm.units; omega) ?_
    rw [eqv_dI, decide_eq_true rfl]
    refine PyProof.Rows.ne_bool ?_
    walk_at "m"
    rw [show (false != !true) = false from rfl, if_neg Bool.false_ne_true]
    refine wpAny_allTrue_Or_nil ?_
    rw [if_neg Bool.false_ne_true]
    walk_at "m"
    have F5 := ((F2.tail).pure k3).pure k5
    exact bodyD3 w mg mb E b lam ma la ca pa fz L cla rows rowf len czs kc A I3 h5 _ _ g d _ os Q Er (C.keeps hI3) rm ((if_neg (by decide +kernel)).trans mc) (hI3 _ _ hcla) (hcs.keeps hI3) hrl hrows hn10 F5 fun h' tk' F' => hret I3 h' _ (ysm ++ ns) km' tk' hI3 (fun y hy => if_neg hy) (by rw [List.length_append, hns]; exact Nat.le_refl _) F'

theorem RowsAre.get {rs : List RowH} {ps : List (List Nat × List Int)} (H : RowsAre rs ps) : ∀ (j : Nat) (r : RowH), rs[j]? = some r → IntsAre r.items (ps.getD j ([], [])).2 := by
  induction H with
  | nil => intro j r h; simp at h
  | cons a b _ ih =>
    intro j r h
    cases j with
    | zero => simp at h; subst h; simpa using b
    | succ j => simpa using ih j r (by simpa using h)
theorem strs_app {vs us : List Value} {xs ys : List Str} (H : StrsAre vs xs) (K : StrsAre us ys) : StrsAre (vs ++ us) (xs ++ ys) := by
  induction H with
  | nil => exact K
  | cons x t _ ih => exact .cons x t ih
theorem likeK_eq (E : List (List Nat)) (l : List Nat) : likeK E l = likeN (κE E) E.length (spellL (normL l)) := rfl
/-- one turn of the loop of look-ups -/
theorem bodyD (w : World) (mg mb : Str → Option Value) :
  ∀ (E : List (List Nat)) (l : List Nat) (t : Tok) (b lam ma la ca pa fz L cla : Addr) (rows : List RowH) (czs ysm : List Value) (kc km : Nat) (A : Around) (I h : Heap) (m : Str → Option Value) (g : Array GenState) (d : Drawn) (tk : Nat) (os : OsState) (o6 o7 o8 : Obj) (v6 v7 v8 : Option Value) (Q : Flow → Shared → Prop) (Er : Value → Shared → Prop),
    BaseC w mg mb I L E b lam ma la ca pa fz rows → Rm A 12 120 → E.length ≤ 10 → (∀ e ∈ E, IsLead e) → IsLead l → o6.data = .cell v6 → o7.data = .cell v7 → o8.data = .cell v8 →
    m (Str.ofString "classes") = some (.ref cla) → I.get? cla = some (listO czs kc) → ListsIn I czs (fun c => ((rowsN (κE E) E.length).getD c ([], [])).2) (rowsN (κE E) E.length).length →
    Fm I L h m [(ma, listO ysm km), (L + 6, o6), (L + 7, o7), (L + 8, o8)] → m (Str.ofString "text") = some (.str (tx l) t) → ysm.length ≤ 900 →
    (∀ (I' h' : Heap) m' ysm' km' v6 v7 v8 tk', I.StaysIn I' → (∀ y, y ≠ Str.ofString "told" → y ≠ Str.ofString "due" → m' y = m y) → ysm'.length ≤ ysm.length + 3 → CellAt I' (L + 6) v6 → CellAt I' (L + 7) v7 → CellAt I' (L + 8) v8 → Fm I' L h' m' [(ma, listO ysm' km')] → Q .next ⟨h', g, d, tk', os⟩) →
    wpAny (model PySem.Challenge.rw_in0106_01.row.prog w) A (execs ((loopB (K₀ w) 166 9).drop 0) (ev w L)) Q Er ⟨h, g, d, tk, os⟩ := by
  intro E l t b lam ma la ca pa fz L cla rows czs ysm kc km A I h m g d tk os o6 o7 o8 v6 v7 v8 Q Er C rm hn10 hlead hl d6 d7 d8 mc hcla hcs F mt hyl hret
  have hrl := C.rowsA.length
  have hlen10 : (rowsN (κE E) E.length).length ≤ 10 := Nat.le_trans (rowsN_le _ _) hn10
  refine bodyD1 w mg mb E l t b lam ma la ca pa fz L rows A I h m g d tk os o6 o7 o8 v6 v7 v8 ysm km Q Er C rm hn10 hlead hl d6 d7 d8 F mt fun I2 h2 x D lks lk v7' tk2 kI2 c6 Lx c7 c8 hD hlks F2 => ?_
  refine bodyD2a w mg mb (fun _ => []) (fun _ => []) (fun _ => []) (rowsN (κE E) E.length).length (fun c => ((rowsN (κE E) E.length).getD c ([], [])).2) (likeK E l) lks czs cla D L lk kc A I2 h2 m g d tk2 os _ Q Er (C.base.gd.keeps kI2) rm hlen10 (fun j hj => ?_) c8 hD hlks (kI2 _ _ hcla) (hcs.keeps kI2) F2 mc fun I3 h3 m3 du dk tk3 kI3 hm3 mdu hdu F3 => ?_
  · have hm : (rowsN (κE E) E.length).getD j ([], []) ∈ rowsN (κE E) E.length := by rw [List.getD_eq_getElem?_getD, List.getElem?_eq_getElem hj]; exact List.getElem_mem _
    obtain ⟨c, f, _, _, e⟩ := rowsN_get _ hm
    have := rowsN_row_len _ hm
    refine ⟨by show 1 ≤ ((rowsN (κE E) E.length).getD j ([], [])).2.length; rw [e]; simp, by show ((rowsN (κE E) E.length).getD j ([], [])).2.length ≤ 20; omega⟩
  · have kI : I.StaysIn I3 := fun b o e => kI3 _ _ (kI2 _ _ e)
    have C3 := C.keeps kI
    have mc3 : m3 (Str.ofString "classes") = some (.ref cla) := (hm3 _ (by decide +kernel)).trans mc
    cases hf : findR rows (spellL (normL l)) with
    | some v =>
      obtain ⟨pre, r, post, p, erows, rk, ev', pm, pk, ri, _⟩ := findR_some C.rowsA (rowsN_keys _ _) hf
      subst ev'
      have hr : r ∈ rows := by rw [erows]; exact List.mem_append_right _ (.head _)
      obtain ⟨lne, c, hc, hgc, hfil⟩ := likeN_some (κE E) pm pk
      obtain ⟨Tc, us, ku, eTc, hTc, hus⟩ := hcs.2 c hc
      have hdu2 : I3.get? du = some (listO [.ref Tc, .ref Tc, .ref Tc] dk) := by
        rw [hdu]
        have : ((List.range (rowsN (κE E) E.length).length).filter fun j => decide ((((rowsN (κE E) E.length).getD j ([], [])).2).drop 1 = likeK E l)) = [c] := hfil
        rw [this]
        have eg : czs.getD c .none = .ref Tc := by rw [List.getD_eq_getElem?_getD, eTc]; rfl
        rw [List.map_singleton, eg]; rfl
      refine bodyD2f w mg mb E l b lam ma la ca pa fz L x cla D du Tc rows r p.2 (fun c => ((rowsN (κE E) E.length).getD c ([], [])).2) (rowsN (κE E) E.length).length us lks czs ysm ku lk kc km dk (likeK E l) A I3 h3 m3 g d tk3 os Q Er C3 rm hl (c6.keeps kI3) (Lx.keeps kI3) (c8.keeps kI3) (kI3 _ _ hD) hlks lne mdu hdu2 (kI _ _ hTc) (by rw [← hgc]; exact hus) hr ri hf mc3 (kI _ _ hcla) (hcs.keeps kI) hrl (fun j r hj => C.rowsA.get j r hj) hlen10 F3 hyl fun I4 h4 m4 tk4 kI4 hm4 F4 => ?_
      exact hret I4 h4 m4 ysm km _ _ _ tk4 (fun b o e => kI4 _ _ (kI _ _ e)) (fun y h1 h2 => (hm4 y h1).trans (hm3 y h2)) (by omega) ((c6.keeps kI3).keeps kI4) ((c7.keeps kI3).keeps kI4) ((c8.keeps kI3).keeps kI4) F4
    | none =>
      obtain ⟨lnil, hfil⟩ := likeN_none (κE E) ((findR_none C.rowsA).mp hf)
      have lnil' : likeK E l = [] := lnil
      have hdu2 : I3.get? du = some (listO [] dk) := by
        rw [hdu]
        have : ((List.range (rowsN (κE E) E.length).length).filter fun j => decide ((((rowsN (κE E) E.length).getD j ([], [])).2).drop 1 = likeK E l)) = [] := hfil
        rw [this]; rfl
      rw [lnil'] at hlks
      refine bodyD2n5 w mg mb E b lam ma la ca pa fz L du rows ysm km dk A I3 h3 m3 g d tk3 os Q Er C3 rm mdu hdu2 F3 hyl fun I4 h4 m4 U0 U1 U2 t0 t1 t2 du2 tk4 kI4 hm4 mdu4 hdu4 u0 u1 u2 F4 => ?_
      have kI34 : I2.StaysIn I4 := fun b o e => kI4 _ _ (kI3 _ _ e)
      have kI04 : I.StaysIn I4 := fun b o e => kI4 _ _ (kI _ _ e)
      refine bodyD2n6 w mg mb E l b lam ma la ca pa fz L x cla D du2 U0 U1 U2 t0 t1 t2 rows (fun c => ((rowsN (κE E) E.length).getD c ([], [])).2) (rowsN (κE E) E.length).length lks czs ysm lk kc km A I4 h4 m4 g d tk4 os Q Er (C.keeps kI04) rm hl (c6.keeps kI34) (Lx.keeps kI34) (c8.keeps kI34) (kI34 _ _ hD) hlks mdu4 hdu4 u0 u1 u2 hf ((hm4 _ (by decide +kernel)).trans mc3) (kI04 _ _ hcla) (hcs.keeps kI04) hrl (fun j r hj => C.rowsA.get j r hj) hlen10 F4 hyl fun I5 h5 m5 ysm5 km5 tk5 kI5 hm5 hy5 F5 => ?_
      exact hret I5 h5 m5 ysm5 km5 _ _ _ tk5 (fun b o e => kI5 _ _ (kI04 _ _ e)) (fun y h1 h2 => ((hm5 y h1).trans (hm4 y h2)).trans (hm3 y h2)) hy5 ((c6.keeps kI34).keeps kI5) ((c7.keeps kI34).keeps kI5) ((c8.keeps kI34).keeps kI5) F5

set_option maxHeartbeats 4000000 in
theorem pieceE (w : World) (mg mb : Str → Option Value) :
  ∀ (E As : List (List Nat)) (b lam ma la ca pa fz L cla ea aa : Addr) (rows : List RowH) (czs ysm evs avs : List Value) (kc km ke ka : Nat) (A : Around) (I h : Heap) (m : Str → Option Value) (g : Array GenState) (d : Drawn) (tk : Nat) (os : OsState) (o : Nat → Obj) (Q : Flow → Shared → Prop) (Er : Value → Shared → Prop),
    BaseC w mg mb I L E b lam ma la ca pa fz rows → Rm A 12 120 → E.length ≤ 10 → As.length ≤ 10 → (∀ e ∈ E, IsLead e) → (∀ e ∈ As, IsLead e) → (∀ i, ∃ v, (o i).data = .cell v) →
    m (Str.ofString "classes") = some (.ref cla) → I.get? cla = some (listO czs kc) → ListsIn I czs (fun c => ((rowsN (κE E) E.length).getD c ([], [])).2) (rowsN (κE E) E.length).length →
    m (Str.ofString "entered") = some (.ref ea) → I.get? ea = some (listO evs ke) → StrsAre evs (E.map tx) → m (Str.ofString "asked") = some (.ref aa) → I.get? aa = some (listO avs ka) → StrsAre avs (As.map tx) →
    Fm I L h m [(ma, listO ysm km), (L + 6, o 6), (L + 7, o 7), (L + 8, o 8)] → ysm.length ≤ 100 →
    (∀ (h' : Heap) tk', I.StaysIn h' → Q (.ret (.bool true)) ⟨h', g, d, tk', os⟩) →
    wpAny (model PySem.Challenge.rw_in0106_01.row.prog w) A (execs ((bodyOf (K₀ w) 166).drop 9) (ev w L)) Q Er ⟨h, g, d, tk, os⟩ := by
  intro E As b lam ma la ca pa fz L cla ea aa rows czs ysm evs avs kc km ke ka A I h m g d tk os o Q Er C rm hn10 hna hlead hleadA ho mc hcla hcs mE heE hevs mA haA havs F hyl hret
  refine' body_is (B := [?s0, ?s1, ?s2, ?s3, ?s4, ?s5, ?s6, ?s7, ?s8, ?s9, ?s10]) (S := ⟨?k, ?n, ?g, ?c, ?m⟩) ?hB ?hS ?_
  case hB => exact rfl
  case hS => exact rfl
  dsimp only [List.drop]
  have hel : evs.length = E.length := by rw [strs_len hevs, List.length_map]
  have hal : avs.length = As.length := by rw [strs_len havs, List.length_map]
  walk_at "m"
  walk_at "mFor"
  walk_at "m"
  walk_at "mL"
  walk_at "mL"
  refine addList (F.keep _ _ haA) (F.keep _ _ heE) (by rw [sizeLine_eq]; omega) fun T h1 k1 n1 e1 => ?_
  have F1 := F.new k1 n1 e1
  refine Exists.elim (F1.settle (p := (T, listO (avs ++ evs) 0)) 0 rfl) fun I2 hX => ?_
  have kI2 := hX.1
  have F2 : Fm I2 L h1 m [(ma, listO ysm km), (L + 6, o 6), (L + 7, o 7), (L + 8, o 8)] := hX.2.1
  have eT : I2.get? T = some (listO (avs ++ evs) 0) := hX.2.2
  clear hX F F1
  refine iter_list (isListO e1) fun It h3 k3 l3 ne3 hst3 hl3 => ?_
  have nIt : h1.get? It = none := isNone_of fun o e => absurd (Heap.lt_size e) (Nat.not_lt.mpr l3)
  have IIt : I2.get? It = none := isNone_of fun o e => by have := F2.keep _ _ e; rw [nIt] at this; cases this
  have LIt : L ≠ It := fun q => by obtain ⟨o, _, _, e, _⟩ := F2.ns; rw [q, nIt] at e; cases e
  have muIt : ∀ p ∈ [(ma, listO ysm km), (L + 6, o 6), (L + 7, o 7), (L + 8, o 8)], p.1 ≠ It := fun p hp q => by have := (F2.mus p hp).1; rw [q, nIt] at this; cases this
  have maIt : ma ≠ It := muIt (ma, listO ysm km) (by simp)
  have x6It : L + 6 ≠ It := muIt (L + 6, o 6) (by simp)
  have x7It : L + 7 ≠ It := muIt (L + 7, o 7) (by simp)
  have x8It : L + 8 ≠ It := muIt (L + 8, o 8) (by simp)
  have i6 := (F2.mus (L + 6, o 6) (by simp)).2
  have i7 := (F2.mus (L + 7, o 7) (by simp)).2
  have i8 := (F2.mus (L + 8, o 8) (by simp)).2
  have m6 : L + 6 ≠ ma := F2.apart 1 0 rfl rfl (by decide)
  have m7 : L + 7 ≠ ma := F2.apart 2 0 rfl rfl (by decide)
  have m8 : L + 8 ≠ ma := F2.apart 3 0 rfl rfl (by decide)
  have n67 : L + 6 ≠ L + 7 := F2.apart 1 2 rfl rfl (by decide)
  have n68 : L + 6 ≠ L + 8 := F2.apart 1 3 rfl rfl (by decide)
  have n78 : L + 7 ≠ L + 8 := F2.apart 2 3 rfl rfl (by decide)
  obtain ⟨v6, d6⟩ := ho 6
  obtain ⟨v7, d7⟩ := ho 7
  obtain ⟨v8, d8⟩ := ho 8
  have hsz : (avs ++ evs).toArray.size = As.length + E.length := by rw [List.size_toArray, List.length_append]; omega
  have W1 := Walks.list (prog := PySem.Challenge.rw_in0106_01.row.prog) (w := w) rm.handled It T ne3 (avs ++ evs).toArray
  refine codeAny_mono (R := fun r s' => r = .ok .next ∧ ∃ h' tk', s' = ⟨h', g, d, tk', os⟩ ∧ I2.StaysIn h')
    (forW W1 (fun i hh => ∃ m' ysm' km' o6 o7 o8 v6 v7 v8, (∀ y, y ≠ Str.ofString "told" → y ≠ Str.ofString "due" → y ≠ Str.ofString "text" → m' y = m y) ∧ ysm'.length ≤ ysm.length + 3 * i ∧ o6.data = .cell v6 ∧ o7.data = .cell v7 ∧ o8.data = .cell v8 ∧ Fm I2 L hh m' [(ma, listO ysm' km'), (L + 6, o6), (L + 7, o7), (L + 8, o8)]) ⟨hst3, hl3⟩ ?_ ?_ ?_ ?_) ?_
  · exact ⟨m, ysm, km, o 6, o 7, o 8, v6, v7, v8, fun _ _ _ _ => rfl, Nat.le_refl _, d6, d7, d8, F2.pure k3⟩
  · rintro i hh h' ⟨m', ysm', km', o6, o7, o8, v6, v7, v8, hm', hy, d6, d7, d8, F'⟩ hk
    refine ⟨m', ysm', km', o6, o7, o8, v6, v7, v8, hm', hy, d6, d7, d8, F'.other hk (fun q => LIt (List.mem_singleton.mp q)) (fun x hx => by rw [List.mem_singleton.mp hx]; exact IIt) (fun p hp q => ?_)⟩
    have q := List.mem_singleton.mp q
    simp only [List.mem_cons, List.not_mem_nil, or_false] at hp
    rcases hp with rfl | rfl | rfl | rfl
    · exact maIt q
    · exact x6It q
    · exact x7It q
    · exact x8It q
  · rintro i v hh tk1 E1 hi hv ⟨m', ysm', km', o6, o7, o8, v6, v7, v8, hm', hy, d6, d7, d8, F'⟩ ⟨⟨oI, hoI, hoIr⟩, _⟩
    have hi : i < As.length + E.length := by rw [← hsz]; exact hi
    have hS : StrsAre (avs ++ evs) ((As ++ E).map tx) := by rw [List.map_append]; exact strs_app havs hevs
    obtain ⟨t, rfl, hiE⟩ := txs_at hS (by simpa using hv)
    have hl : IsLead ((As ++ E).getD i []) := by
      have : (As ++ E).getD i [] ∈ As ++ E := by rw [List.getD_eq_getElem?_getD, List.getElem?_eq_getElem hiE]; exact List.getElem_mem _
      rcases List.mem_append.mp this with h | h
      · exact hleadA _ h
      · exact hlead _ h
    generalize (As ++ E).getD i [] = l at hl
    refine Exists.elim F'.absorb fun I3 hX => ?_
    have kI3 := hX.1
    have F3 := hX.2.1
    have iIt : I3.get? It = some oI := hX.2.2 It oI hoI (Ne.symm LIt) (by
      simp only [List.map_cons, List.map_nil, List.mem_cons, List.not_mem_nil, or_false, not_or]
      exact ⟨Ne.symm maIt, Ne.symm x6It, Ne.symm x7It, Ne.symm x8It⟩)
    clear hX
    have k23 : I.StaysIn I3 := fun b o e => kI3 _ _ (kI2 _ _ e)
    refine stL F3 (fun h4 F4 => ?_) rfl rfl
    replace F4 : Fm I3 L h4 (fun y => if y = Str.ofString "text" then some (.str (tx l) t) else m' y) [(ma, listO ysm' km'), (L + 6, o6), (L + 7, o7), (L + 8, o8)] := F4
    refine bodyD w mg mb E l t b lam ma la ca pa fz L cla rows czs ysm' kc km' A I3 h4 _ g d _ os o6 o7 o8 v6 v7 v8 _ _ (C.keeps k23) rm hn10 hlead hl d6 d7 d8 ((if_neg (by decide +kernel)).trans ((hm' _ (by decide +kernel) (by decide +kernel) (by decide +kernel)).trans mc)) (k23 _ _ hcla) (hcs.keeps k23) F4 (if_pos rfl) (by omega) fun I5 h5 m5 ysm5 km5 w6 w7 w8 tk5 kI5 hm5 hy5 c6 c7 c8 F5 => ?_
    obtain ⟨p6, e6, q6⟩ := c6
    obtain ⟨p7, e7, q7⟩ := c7
    obtain ⟨p8, e8, q8⟩ := c8
    have k25 : I2.StaysIn I5 := fun b o e => kI5 _ _ (kI3 _ _ e)
    have F6 := ((((F5.weak k25).add (F5.keep _ _ e8) i8.1 i8.2 (by simpa using m8)).add (F5.keep _ _ e7) i7.1 i7.2 (by simp; exact m7)).add (F5.keep _ _ e6) i6.1 i6.2 (by simp; exact m6)).perm (List.perm_append_comm (l₁ := [(L + 6, p6), (L + 7, p7), (L + 8, p8)]) (l₂ := [(ma, listO ysm5 km5)]))
    refine ⟨h5, tk5, rfl, ⟨m5, ysm5, km5, p6, p7, p8, _, _, _, fun y y1 y2 y3 => (hm5 y y1 y2).trans ((if_neg y3).trans (hm' y y1 y2 y3)), by omega, q6, q7, q8, F6⟩, fun b hb o e => ?_⟩
    rcases List.mem_cons.mp hb with rfl | hb
    · have e : hh.get? b = some o := e
      rw [hoI] at e; cases e
      exact F5.keep _ _ (kI5 _ _ iIt)
    · rw [List.mem_singleton.mp hb] at e ⊢
      have e : hh.get? T = some o := e
      rw [F'.keep _ _ eT] at e; cases e
      exact F5.keep _ _ (k25 _ _ eT)
  · rintro hh tk1 ⟨m', ysm', km', o6, o7, o8, v6, v7, v8, hm', hy, d6, d7, d8, F'⟩
    exact ⟨rfl, hh, tk1, rfl, F'.keep⟩
  · rintro r s' ⟨rfl, h', tk', rfl, kh⟩
    try dsimp only
    walk_at "m"
    walk_at "m"
    walk_at "m"
    exact hret h' _ fun b o e => kh _ _ (kI2 _ _ e)

def cellOf' (h : Heap) (a : Addr) : Obj := match h.get? a with | some ob => (match ob.data with | .cell _ => ob | _ => cellE) | none => cellE
theorem cellOf'_cell (h : Heap) (a : Addr) : ∃ v, (cellOf' h a).data = .cell v := by
  unfold cellOf'
  split
  · split
    · exact ⟨_, by assumption⟩
    · exact ⟨none, rfl⟩
  · exact ⟨none, rfl⟩
theorem cellOf'_get {h : Heap} {a : Addr} {ob : Obj} {v : Option Value} (e : h.get? a = some ob) (d : ob.data = .cell v) : h.get? a = some (cellOf' h a) := by
  have : cellOf' h a = ob := by unfold cellOf'; rw [e]; dsimp only; rw [d]
  rw [this]; exact e
set_option maxHeartbeats 4000000 in
theorem main_spec (w : World) (mg mb : Str → Option Value) :
  ∀ (E As : List (List Nat)) (ea aa : Addr) (evs avs : List Value) (ke ka : Nat) (A : Around) (I h : Heap) (g : Array GenState) (d : Drawn) (tk : Nat) (os : OsState) (R : Result → Shared → Prop),
    Gd w mg mb I → Rm A 13 123 → I.StaysIn h → CodeHd I 165 163 → CodeHd I 61 57 → h.get? 163 = some (tabObj #[]) → h.get? 57 = some (tabObj #[]) → I.get? 163 = none → I.get? 57 = none →
    E.length ≤ 10 → As.length ≤ 10 → (∀ e ∈ E, IsLead e) → (∀ e ∈ As, IsLead e) → I.get? ea = some (listO evs ke) → StrsAre evs (E.map tx) → I.get? aa = some (listO avs ka) → StrsAre avs (As.map tx) →
    (∀ (h' : Heap) tk', I.StaysIn h' → (∃ ps, h'.get? 57 = some (tabObj ps)) → (∃ ps, h'.get? 163 = some (tabObj ps)) → R (.ok (.ret (.bool true))) ⟨h', g, d, tk', os⟩) →
      codeAny (model PySem.Challenge.rw_in0106_01.row.prog w) A (.call (.ref 166) ⟨[.ref ea, .ref aa], []⟩) R ⟨h, g, d, tk, os⟩ := by
  intro E As ea aa evs avs ke ka A I h g d tk os R G rm hI C163 C57 h163 h57 i163 i57 hn10 hna hlead hleadA heE hevs haA havs hret
  have X1 := (G.keeps hI).kin
  revert X1
  k_fill
  intro X1
  have lim := (G.keeps hI).lim
  k_dflt (refine' enterC (dd := 12) (u := 120) (binds := [(Str.ofString "entered", .ref ea), (Str.ofString "asked", .ref aa)]) X1 lim rm ?k6 ?k7 ?k9 ?kB ?_ ?c2 ?c3 ?c4; (case k6 => k_is); (case k7 => k_is); (case k9 => exact rfl); (case kB => exact rfl); (case c2 => exact rfl); (case c3 => exact rfl); (case c4 => exact rfl))
  intro L h₁ tk₁ A' E' m cm F0 hm hcm hcell rmA hfr
  have mE : m (Str.ofString "entered") = some (.ref ea) := hm ▸ rfl
  have mA : m (Str.ofString "asked") = some (.ref aa) := hm ▸ rfl
  clear hm
  have cell : ∀ (n : Str) (i : Nat), (∃ o, h₁.get? (L + i) = some o ∧ o.data = .cell (cm n) ∧ L < L + i) → h₁.get? (L + i) = some (cellOf' h₁ (L + i)) ∧ L + i ≠ L ∧ I.get? (L + i) = none := fun n i hx => by
    obtain ⟨o, e, dd, lt⟩ := hx
    exact ⟨cellOf'_get e dd, Nat.ne_of_gt lt, isNone_of fun o' e' => by have := hI _ _ e'; rw [hfr _ lt] at this; cases this⟩
  have x1 := cell _ 1 (hcell (Str.ofString "book") (L + 1) (by exact rfl))
  have x2 := cell _ 2 (hcell (Str.ofString "leads") (L + 2) (by exact rfl))
  have x3 := cell _ 3 (hcell (Str.ofString "columns") (L + 3) (by exact rfl))
  have x4 := cell _ 4 (hcell (Str.ofString "places") (L + 4) (by exact rfl))
  have x5 := cell _ 5 (hcell (Str.ofString "firsts") (L + 5) (by exact rfl))
  have x6 := cell _ 6 (hcell (Str.ofString "lead") (L + 6) (by exact rfl))
  have x7 := cell _ 7 (hcell (Str.ofString "walked") (L + 7) (by exact rfl))
  have x8 := cell _ 8 (hcell (Str.ofString "like") (L + 8) (by exact rfl))
  have x9 := cell _ 9 (hcell (Str.ofString "made") (L + 9) (by exact rfl))
  have ltL : ∀ x o, h.get? x = some o → x ≠ L ∧ ∀ i, 1 ≤ i → x ≠ L + i := fun x o e => by
    exact ⟨Nat.ne_of_lt (Nat.lt_of_lt_of_le (Heap.lt_size e) F0.above), fun i _ => Nat.ne_of_lt (Nat.lt_of_lt_of_le (Heap.lt_size e) (Nat.le_trans F0.above (Nat.le_add_right _ _)))⟩
  have p57 := ltL _ _ h57
  have p163 := ltL _ _ h163
  have add : ∀ (i j : Nat), i ≠ j → L + i ≠ L + j := fun i j hij q => hij (Nat.add_left_cancel q)
  have F : Fm I L h₁ m [(163, tabObj #[]), (57, tabObj #[]), (L + 1, cellOf' h₁ (L + 1)), (L + 2, cellOf' h₁ (L + 2)), (L + 3, cellOf' h₁ (L + 3)), (L + 4, cellOf' h₁ (L + 4)), (L + 5, cellOf' h₁ (L + 5)), (L + 6, cellOf' h₁ (L + 6)), (L + 7, cellOf' h₁ (L + 7)), (L + 8, cellOf' h₁ (L + 8)), (L + 9, cellOf' h₁ (L + 9))] := by
    refine ⟨F0.ns, fun b o e => F0.keep _ _ (hI _ _ e), isNone_of fun o e => by have := (ltL _ _ (hI _ _ e)).1; exact this rfl, fun p hp => ?_, ?_⟩
    · simp only [List.mem_cons, List.not_mem_nil, or_false] at hp
      rcases hp with rfl | rfl | rfl | rfl | rfl | rfl | rfl | rfl | rfl | rfl | rfl
      · exact ⟨F0.keep _ _ h163, p163.1, i163⟩
      · exact ⟨F0.keep _ _ h57, p57.1, i57⟩
      all_goals assumption
    · simp only [List.map_cons, List.map_nil, List.nodup_cons, List.mem_cons, List.not_mem_nil, or_false, not_or, not_false_eq_true, List.nodup_nil, and_true]
      refine ⟨⟨by decide, p163.2 1 (by decide), p163.2 2 (by decide), p163.2 3 (by decide), p163.2 4 (by decide), p163.2 5 (by decide), p163.2 6 (by decide), p163.2 7 (by decide), p163.2 8 (by decide), p163.2 9 (by decide)⟩,
        ⟨p57.2 1 (by decide), p57.2 2 (by decide), p57.2 3 (by decide), p57.2 4 (by decide), p57.2 5 (by decide), p57.2 6 (by decide), p57.2 7 (by decide), p57.2 8 (by decide), p57.2 9 (by decide)⟩, ?_⟩
      repeat' apply And.intro
      all_goals exact add _ _ (by decide)
  refine pieceA w mg mb E ea L evs A' I h₁ m g d tk₁ os (fun i => cellOf' h₁ (L + i)) _ _ G rmA (fun i => cellOf'_cell _ _) C163 F mE (isListO heE) hevs hn10 (fun l hl => by have := (hlead l hl).len; omega) fun I2 b dx lam ma la ca pa ps k h2 tk2 kI2 B2 F2 => ?_
  refine pieceB w mg mb E b dx lam ma la ca pa L A' I2 h2 m g d tk2 os k _ _ _ B2 rmA hn10 (fun l hl => lead_nb (hlead l hl)) F2 fun h3 m3 rows ysm km nb tk3 hm3 hrows hysl F3 => ?_
  refine pieceC w mg mb E b dx lam ma la ca pa L A' I2 h3 m3 g d tk3 os (fun i => cellOf' h₁ (L + i)) rows ysm km nb ps _ _ B2 rmA hn10 hlead (C57.keeps kI2) hrows (fun i => cellOf'_cell _ _) F3 fun I4 h4 m4 fz cla cys ck tk4 kI4 hm4 mc4 hcla hcs C4 F4 => ?_
  have k4 : I.StaysIn I4 := fun b o e => kI4 _ _ (kI2 _ _ e)
  have hy10 : ysm.length ≤ 100 := by
    have := hrows.length
    have := rowsN_le (κE E) E.length
    omega
  refine pieceE w mg mb E As b lam ma la ca pa fz L cla ea aa rows cys ysm evs avs ck km ke ka A' I4 h4 m4 g d tk4 os (fun i => cellOf' h₁ (L + i)) _ _ C4 rmA hn10 hna hlead hleadA (fun i => cellOf'_cell _ _) mc4 hcla hcs ((hm4 _ (by decide +kernel)).trans ((hm3 _ (by decide +kernel)).trans mE)) (k4 _ _ heE) hevs ((hm4 _ (by decide +kernel)).trans ((hm3 _ (by decide +kernel)).trans mA)) (k4 _ _ haA) havs F4 hy10 fun h5 tk5 k5 => ?_
  exact hret h5 tk5 (fun b o e => k5 _ _ (k4 _ _ e)) (let ⟨ps, e⟩ := C4.t57; ⟨ps, k5 _ _ e⟩) (let ⟨ps, e⟩ := C4.t163; ⟨ps, k5 _ _ e⟩)

theorem strs_nth : ∀ {vs : List Value} {ss : List Str}, StrsAre vs ss → ∀ (i : Nat) (s : Str), ss[i]? = some s → ∃ t, vs[i]? = some (.str s t) := by
  intro vs ss H
  induction H with
  | nil => intro i s h; simp at h
  | cons x t _ ih =>
    intro i s h
    cases i with
    | zero => simp at h; subst h; exact ⟨t, by simp⟩
    | succ i => obtain ⟨t', e⟩ := ih i s (by simpa using h); exact ⟨t', by simpa using e⟩
theorem strs_filterMap {vs : List Value} {T : List (List Nat)} (H : StrsAre vs (T.map tx)) : ∀ is : List Nat, StrsAre (is.filterMap (vs.toArray[·]?)) ((is.filterMap (T[·]?)).map tx)
  | [] => .nil
  | i :: is => by
    have ih := strs_filterMap H is
    cases h : T[i]? with
    | none =>
      have hv : vs.toArray[i]? = none := by
        have e := strs_len H
        rw [List.length_map] at e
        have := List.getElem?_eq_none_iff.mp h
        simp; omega
      rw [List.filterMap_cons, List.filterMap_cons, h, hv]
      exact ih
    | some l =>
      obtain ⟨t, e⟩ := strs_nth H i (tx l) (by rw [List.getElem?_map, h]; rfl)
      have hv : vs.toArray[i]? = some (.str (tx l) t) := by simpa using e
      rw [List.filterMap_cons, List.filterMap_cons, h, hv]
      exact .cons _ _ ih
theorem pick_step {vs : List Value} {T : List (List Nat)} (H : StrsAre vs (T.map tx)) (hT : T.length ≤ 14) (a : Nat) (ha : a ≤ 1) :
    ∃ P : List (List Nat), StrsAre (slicePick vs.toArray (some (a : Int)) none (some 2)).toList (P.map tx) ∧ P.length ≤ 10 ∧ ∀ p ∈ P, p ∈ T := by
  have hl := strs_len H
  rw [List.length_map] at hl
  refine ⟨(sliceRange (sliceBounds (some (a : Int)) none (some 2) vs.toArray.size).1 (sliceBounds (some (a : Int)) none (some 2) vs.toArray.size).2.1 (sliceBounds (some (a : Int)) none (some 2) vs.toArray.size).2.2).filterMap (T[·]?), ?_, ?_, ?_⟩
  · unfold slicePick
    simpa using strs_filterMap H _
  · refine Nat.le_trans (List.length_filterMap_le _ _) ?_
    unfold sliceRange sliceBounds
    rw [List.length_map, List.length_range, List.size_toArray]
    simp only [Option.getD_some]
    have h2 : (2 : Int) > 0 := by decide
    have ha0 : ¬ (a : Int) < 0 := by omega
    simp only [if_pos h2, if_neg ha0]
    split <;> omega
  · intro p hp
    obtain ⟨i, _, e⟩ := List.mem_filterMap.mp hp
    exact List.mem_of_getElem? e
section
variable {prog : Program} {w : World} {A : Around} {E : Value → Shared → Prop} {s : Shared} {env : Env} {g : Array GenState} {d : Drawn} {os : OsState}
/-- the head of a list before a place -/
theorem sliceTake {value : Expr} {e : Expr} {p pos : Pos} {Q : Value → Shared → Prop}
    (h : wpAny (model prog w) A (eval value env) (fun o s₁ => wpAny (model prog w) A (eval e env) (fun vl s₂ => ∃ (l : Addr) (xs : List Value) (a : Nat) (t : Tok), o = .ref l ∧ s₂.heap.IsList l xs.toArray ∧ xs.length ≤ 1000 ∧ vl = .int (a : Int) t ∧
      (∀ T h', s₂.heap.StaysIn h' → s₂.heap.get? T = none → h'.get? T = some (listO (xs.take a) 0) → Q (.ref T) { s₂ with heap := h' })) E s₁) E s)
    (ht : ∀ o r, letTemporaryGo value o r = pure () := by intro _ _; rfl) :
    wpAny (model prog w) A (eval (.Subscript value (.Slice none (some e) none p) pos) env) Q E s := by
  refine wpAny_Subscript_list_slice (wpAny_mono h (fun o s₁ h₁ => wpAny_pure (wpAny_mono h₁ (fun vl s₂ h₂ => ?_) fun _ _ e => e)) fun _ _ e => e) ht
  obtain ⟨l, xs, a, t, rfl, hl, hn, rfl, hq⟩ := h₂
  refine ⟨l, xs.toArray, none, some (a : Int), rfl, hl, by rw [List.size_toArray, sizeLine_eq]; omega, .none, .int _ _, ?_⟩
  rw [slicePick_upto' xs.toArray a]
  refine hq _ _ (fun b o e => Heap.get?_push_of_some _ (Heap.get?_push_of_some _ e)) (isNone_of fun o e => absurd (Heap.lt_size e) (Nat.not_lt.mpr (Nat.le_succ _))) ?_
  have := Heap.get?_push_size (s₂.heap.push { cls := .type "slice", data := .fields #[.none, .int (a : Int) t, .none] }) (o := { cls := .type "list", data := .seq (xs.toArray.toList.take a).toArray }) rfl
  rw [Heap.size_push] at this
  simpa using this
/-- every second item from a place on -/
theorem sliceStep {value : Expr} {e e2 : Expr} {p pos : Pos} {Q : Value → Shared → Prop}
    (h : wpAny (model prog w) A (eval value env) (fun o s₁ => wpAny (model prog w) A (eval e env) (fun vl s₂ => wpAny (model prog w) A (eval e2 env) (fun vst s₃ => ∃ (l : Addr) (xs : List Value) (k a : Nat) (t t2 : Tok), o = .ref l ∧ s₃.heap.get? l = some (listO xs k) ∧ xs.length ≤ 1000 ∧ vl = .int (a : Int) t ∧ vst = .int 2 t2 ∧
      (∀ T h', s₃.heap.StaysIn h' → s₃.heap.get? T = none → h'.get? T = some (listO (slicePick xs.toArray (some (a : Int)) none (some 2)).toList 0) → Q (.ref T) { s₃ with heap := h' })) E s₂) E s₁) E s)
    (ht : ∀ o r, letTemporaryGo value o r = pure () := by intro _ _; rfl) :
    wpAny (model prog w) A (eval (.Subscript value (.Slice (some e) none (some e2) p) pos) env) Q E s := by
  refine wpAny_Subscript_Slice_step (T := "list") list_getitem_lookup (wpAny_mono h (fun o s₁ h₁ => wpAny_Slice (wpAny_mono h₁ (fun vl s₂ h₂ => wpAny_pure (wpAny_mono h₂ (fun vst s₃ h₃ => ?_) fun _ _ e => e)) fun _ _ e => e)) fun _ _ e => e) ht
  obtain ⟨l, xs, k, a, t, t2, rfl, hl, hn, rfl, rfl, hq⟩ := h₃
  have hl' : (s₃.heap.push { cls := .type "slice", data := .fields #[.int (a : Int) t, .none, .int 2 t2] }).IsList l xs.toArray := isListO (Heap.get?_push_of_some _ hl)
  refine ⟨hl'.typeIs, wpAny_getItem_list_slice hl' (Heap.IsSliceOf.new ..) (.int _ _) .none (.int _ _) (by simp) ?_ (by rw [List.size_toArray, sizeLine_eq]; omega)⟩
  rw [Heap.size_push]
  refine hq _ _ (fun b o e => Heap.get?_push_of_some _ (Heap.get?_push_of_some _ e)) (isNone_of fun o e => absurd (Heap.lt_size e) (Nat.not_lt.mpr (Nat.le_succ _))) ?_
  have := Heap.get?_push_size (s₃.heap.push { cls := .type "slice", data := .fields #[.int (a : Int) t, .none, .int 2 t2] }) (o := { cls := .type "list", data := .seq (slicePick xs.toArray (some (a : Int)) none (some 2)) }) rfl
  rw [Heap.size_push] at this
  simpa using this
/-- a comprehension over a list, stored under a name of the frame; nothing is turned -/
theorem comp_asgL {elt iter : Expr} {x y : Str} {px py : Pos} {ifs : List Expr} {scope : Scope} {cl : List (Str × Addr)} {pos spos : Pos} {Q : Flow → Shared → Prop} (hh : A.handled = none)
    (hsw : swapsWith (.ListComp elt [⟨.Name x px, iter, ifs, 0⟩] scope pos) (some (.Name y py)) spos.line env = pure true)
    (hclos : closureFor scope env = pure cl) (hcell : ∀ z ∈ scope.names, z.2 ≠ .cell) (hkind : scope.kind = .function)
    (hnames : ∀ z ∈ scope.names, z.2 = .local → scope.names.lookup z.1 = some .local) (hx : scope.names.lookup x = some .local)
    (hy : env.kindOf y = some .local) (hek : env.scope.kind = .function)
    (hs : ∀ x, foldedSetIterable iter env x = pure x)
    (h : wpAny (model prog w) A (eval iter env) (fun xv s₁ => ∃ (h : Heap) (tk : Nat) (l : Addr) (items : Array Value) (Inv : Nat → List Value → Heap → Prop) (I0 : Heap) (m : Str → Option Value) (mu : Led), s₁ = ⟨h, g, d, tk, os⟩ ∧ xv = .ref l ∧ h.IsList l items ∧ items.size ≤ sizeLine ∧ Fm I0 env.locals h m mu ∧ Inv 0 [] I0 ∧
      (∀ C i v ys I h₁ tk₁ E' m₁, i < items.size → items[i]? = some v → Inv i ys I → I0.StaysIn I → I.StaysIn h₁ → h₁.Ns C m₁ → m₁ x = some v → Turn prog w A E' g d os (compEnvC scope cl C env) elt ifs (fun ys mu I => mu = [] ∧ Inv (i + 1) ys I) ys [] I h₁ tk₁) ∧
      (∀ D ys I h' tk' k, Inv items.size ys I → I0.StaysIn I → Fm I env.locals h' (fun z => if z = y then some (.ref D) else m z) ((D, listO ys k) :: mu) → ys.length ≤ items.size → Q .next ⟨h', g, d, tk', os⟩)) E s) :
    wpAny (model prog w) A (exec (.Assign [.Name y py] (.ListComp elt [⟨.Name x px, iter, ifs, 0⟩] scope pos) spos) env) Q E s := by
  refine comp_assign (g := g) (d := d) (os := os) hsw hclos hcell hkind hnames hx hy hek hs (wpAny_mono h (fun xv s₁ h₁ => ?_) fun _ _ e => e)
  obtain ⟨h, tk, l, items, Inv, I0, m, mu, rfl, rfl, hl, hz, F, hi0, turn, fin⟩ := h₁
  refine iter_list hl fun It h6 k6 l6 ne6 hst6 hl6 => ?_
  have hIt : h.get? It = none := isNone_of fun o e => absurd (Heap.lt_size e) (Nat.not_lt.mpr l6)
  have nIt : ∀ b o, h.get? b = some o → b ∉ [It] := fun b o e hm => by rw [List.mem_singleton.mp hm, hIt] at e; cases e
  refine ⟨h6, items.size, fun i ys mu I => mu = [] ∧ Inv i ys I, I0, [], [It], env.locals :: mu.map (·.1), tk, m, rfl, ⟨It, [It, l], _, _, rfl, Walks.list hh It l ne6 items, ?_, hz, ⟨hst6, hl6⟩, ?_, fun b o e => k6 _ _ (F.keep _ _ e), ?_, (fun _ hp => nomatch hp), ⟨rfl, hi0⟩, ?_, ?_⟩, .head _, F.ns.keeps k6, ?_⟩
  · exact fun i h st b hb => by rw [List.mem_singleton.mp hb]; obtain ⟨⟨o, ho, _⟩, _⟩ := st; exact ⟨o, ho⟩
  · intro b hb
    rcases List.mem_cons.mp hb with rfl | hb
    · obtain ⟨o, ho, _⟩ := hst6; exact Heap.lt_size ho
    · rw [List.mem_singleton.mp hb]; obtain ⟨o, ho, _⟩ := hl6; exact Heap.lt_size ho
  · exact fun b hb => by rw [List.mem_singleton.mp hb]; exact isNone_of fun o e => by have := F.keep _ _ e; rw [hIt] at this; cases this
  · intro b hb
    obtain ⟨⟨o, e⟩, e0⟩ := F.hidden b hb
    exact ⟨⟨o, k6 _ _ e⟩, nIt _ _ e, (by simp), e0⟩
  · rintro C i v ys mu I h₁ tk₁ E' hC hi hv ⟨rfl, hv2⟩ hII hI _ _ ⟨m₁, hn, hm⟩
    exact turn C i v ys I h₁ tk₁ E' m₁ hi hv hv2 hII hI hn hm
  · rintro D ys mu' I h7 tk7 ⟨rfl, hys⟩ hII hI ⟨k, hD⟩ hl7 _ _ hnD iD hxx hk hns
    have hnD0 : h.get? D = none := isNone_of fun o e => by have := k6 _ _ e; rw [hnD] at this; cases this
    refine fin D ys I h7 tk7 k hys hII ?_ hl7
    have F' : Fm I env.locals h7 (fun z => if z = y then some (.ref D) else m z) mu :=
      ⟨hns, hI, hxx _ (.head _), fun p hp => ⟨hk _ _ (F.mus p hp).2.1 (nIt _ _ (F.mus p hp).1) (by simp) (k6 _ _ (F.mus p hp).1), (F.mus p hp).2.1, hxx _ (.tail _ (List.mem_map_of_mem hp))⟩, F.nd⟩
    refine F'.add hD (fun q => ?_) iD fun hb => ?_
    · obtain ⟨oL, _, _, eL, _⟩ := F.ns
      rw [← q, hnD0] at eL; cases eL
    · obtain ⟨p, hp, e⟩ := List.mem_map.mp hb
      have := (F.mus p hp).1
      rw [e, hnD0] at this; cases this
end

theorem body_isE {K : Frag} {a f : Addr} {M : Model} {A : Around} {Q : Flow → Shared → Prop} {E : Value → Shared → Prop} {s : Shared} {q : Str} {L : Addr} {cd : Value} {n : Nat} {B : List Stmt} {S : Scope} (hB : bodyOf K a = B) (hS : scopeOf K a = S) (h : wpAny M A (execs (B.drop n) (envOf q S L f cd)) Q E s) :
    wpAny M A (execs ((bodyOf K a).drop n) (envOf q (scopeOf K a) L f cd)) Q E s := hB ▸ hS ▸ h
/-- the texts that the law makes of its numbers -/
def textsL (ns : List Int) : List (List Nat) := ns.map fun n => leadL (n.fmod 1000000).toNat
set_option maxHeartbeats 4000000 in
theorem law_body (w : World) (mg mb : Str → Option Value) :
  ∀ (L fa sa : Addr) (cd : Value) (vs : List Value) (ns : List Int) (A : Around) (I h : Heap) (m : Str → Option Value) (g : Array GenState) (d : Drawn) (tk : Nat) (os : OsState) (Q : Flow → Shared → Prop) (Er : Value → Shared → Prop),
    Gd w mg mb I → Rm A 14 130 → CodeHd I 165 163 → CodeHd I 61 57 → Fm I L h m [(57, tabObj #[]), (163, tabObj #[])] → m (Str.ofString "script") = some (.ref sa) → I.IsList sa vs.toArray → IntsAre vs ns → ns.length ≤ 63 →
    (∀ (h' : Heap) tk', I.StaysIn h' → (∃ ps, h'.get? 57 = some (tabObj ps)) → (∃ ps, h'.get? 163 = some (tabObj ps)) → Q (.ret (.bool true)) ⟨h', g, d, tk', os⟩) →
    wpAny (model PySem.Challenge.rw_in0106_01.row.prog w) A (execs ((bodyOf (K₀ w) 171).drop 0) (envOf "law" (scopeOf (K₀ w) 171) L fa cd)) Q Er ⟨h, g, d, tk, os⟩ := by
  intro L fa sa cd vs ns A I h m g d tk os Q Er G rm C163 C57 F mS hsa hvs hn63 hret
  refine' body_isE (B := [?s0, ?s1]) (S := ⟨?k, ?n, ?g, ?c, ?m⟩) ?hB ?hS ?_
  case hB => exact rfl
  case hS => exact rfl
  dsimp only [List.drop]
  obtain ⟨glead, gcolumns, gspelled, gnumbered, glook, gws, gfdd⟩ := mg_own G
  have hvl := hvs.length
  walk_at "m"
  refine comp_asgL (g := g) (d := d) (os := os) (cl := []) rm.handled rfl rfl (by decide) rfl (by decide) (by decide +kernel) rfl rfl (fun _ => rfl) ?_
  walk_at "m"
  refine sliceTake ?_
  walk_at "mL"
  walk_at "m"
  refine ⟨sa, vs, 10, _, rfl, isList_keeps hsa F.keep, by omega, rfl, fun T1 h1 k1 n1 e1 => ?_⟩
  have F1 := F.new k1 n1 e1
  refine listNew ?_
  walk_at "ms"
  refine ⟨by rw [sizeLine_eq]; simp, fun T2 h2 k2 n2 e2 => ?_⟩
  have F2 := F1.new k2 n2 e2
  refine addList (k2 _ _ e1) e2 (by rw [sizeLine_eq, List.length_take]; simp; omega) fun T3 h3 k3 n3 e3 => ?_
  have F3 : Fm I L h3 m [(57, tabObj #[]), (163, tabObj #[])] := (F2.tail.tail).pure k3
  clear F F1 F2
  have four : ∀ a b c d : Tok, IntsAre (vs.take 10 ++ [.int 22 a, .int 27 b, .int 2 c, .int 1 d]) (ns.take 10 ++ [22, 27, 2, 1]) := fun a b c d => ints_app (IntsAre.take hvs 10) (.cons 22 _ (.cons 27 _ (.cons 2 _ (.cons 1 _ .nil))))
  obtain ⟨us, hus, e4⟩ : ∃ us, IntsAre us (ns.take 10 ++ [22, 27, 2, 1]) ∧ h3.get? T3 = some (listO us 0) := ⟨_, four _ _ _ _, e3⟩
  clear e3 e1 e2 four
  have hul := hus.length
  have hlen : (ns.take 10 ++ [22, 27, 2, 1]).length ≤ 14 := by rw [List.length_append, List.length_take]; simp; omega
  generalize ns.take 10 ++ [22, 27, 2, 1] = xs at hus hul hlen
  dsimp only
  refine ⟨h3, _, T3, us.toArray, fun i ys _ => StrsAre ys ((textsL (xs.take i)).map tx), I, m, _, rfl, rfl, isListO e4, by rw [List.size_toArray, sizeLine_eq]; omega, F3, .nil, ?_, ?_⟩
  · intro C i v ys I1 h5 tk5 E5 m5 hi hv hys hI1 hI1h hns hm
    have hi : i < xs.length := by rw [← hul]; simpa using hi
    obtain ⟨t, et⟩ := ints_get hus i hi
    have hv : us[i]? = some v := by simpa using hv
    rw [et] at hv
    cases hv
    have k5 : I.StaysIn h5 := fun b o e => hI1h _ _ (hI1 _ _ e)
    have G5 := G.keeps k5
    have m6 : 0 ≤ (xs.getD i 0).fmod 1000000 ∧ (xs.getD i 0).fmod 1000000 < 1000000 := by have := fdiv_fmod_facts (xs.getD i 0) 1000000; omega
    refine turn_all ?_
    walk_at "mCall"
    walk_at "mG"
    refine callWith_K (K := K₀ w) (h₀ := h5) G5.kin (by exact rfl) ?_ rfl rfl
    refine wpAny_items_cons ?_ rfl
    walk_at "m"
    refine ldNs hns hm ?_ rfl rfl rfl
    walk_at "m"
    walk_at "m"
    refine wpAny_items_nil ⟨G5.kin, ?_⟩
    show wpAny _ _ (call (.ref 142) [.int _ _]) _ _ _
    refine wpAny_call (lead_spec w mg mb _ _ _ ⟨h5, g, d, _, os⟩ _ G5 rm.le m6.1 m6.2 fun t6 h6 tk6 k6 => ?_)
    refine elt_pure (Inv := fun ys mu I => mu = [] ∧ StrsAre ys ((textsL (xs.take (i + 1))).map tx)) k6 fun I' _ _ => ⟨rfl, ?_⟩
    have e : (textsL (xs.take (i + 1))).map tx = (textsL (xs.take i)).map tx ++ [tx (leadL ((xs.getD i 0).fmod 1000000).toNat)] := by
      unfold textsL
      rw [List.take_add_one, List.map_append, List.map_append, List.getElem?_eq_getElem hi, List.getD_eq_getElem?_getD, List.getElem?_eq_getElem hi]
      rfl
    rw [e]
    exact strs_snoc hys
  · intro D ys I1 h5 tk5 k5 hys hI1 F5 _
    rw [List.size_toArray, hul, List.take_length] at hys
    have hTl : (textsL xs).length ≤ 14 := by unfold textsL; rw [List.length_map]; exact hlen
    have hTlead : ∀ l ∈ textsL xs, IsLead l := fun l hl => by
      obtain ⟨n, _, rfl⟩ := List.mem_map.mp hl
      exact IsLead.of _
    have hyl : ys.length ≤ 14 := by rw [strs_len hys, List.length_map]; exact hTl
    obtain ⟨Es, hEs, hEl, hEm⟩ := pick_step hys hTl 0 (by decide)
    obtain ⟨As, hAs, hAl, hAm⟩ := pick_step hys hTl 1 (by decide)
    have G5 := G.keeps fun b o e => F5.keep _ _ (hI1 _ _ e)
    walk_at "m"
    walk_at "m"
    walk_at "mCall"
    walk_at "mG"
    refine callWith_K (K := K₀ w) (h₀ := h5) G5.kin (by exact rfl) ?_ rfl rfl
    refine wpAny_items_cons ?_ rfl
    refine sliceStep ?_
    walk_at "mL"
    walk_at "m"
    walk_at "m"
    refine ⟨D, ys, k5, 0, _, _, rfl, F5.get (.head _), by omega, rfl, rfl, fun ea h6 k6 n6 e6 => ?_⟩
    have F6 := F5.new k6 n6 e6
    clear F5
    refine wpAny_items_cons ?_ rfl
    refine sliceStep ?_
    walk_at "mL"
    walk_at "m"
    walk_at "m"
    refine ⟨D, ys, k5, 1, _, _, rfl, F6.get (.tail _ (.head _)), by omega, rfl, rfl, fun aa h7 k7 n7 e7 => ?_⟩
    have F7 := F6.new k7 n7 e7
    clear F6
    refine Exists.elim (F7.settle (p := (aa, listO (slicePick ys.toArray (some ((1 : Nat) : Int)) none (some 2)).toList 0)) 0 rfl) fun I8 hX => ?_
    have kI8 := hX.1
    have F8 : Fm I8 L h7 _ [(ea, listO (slicePick ys.toArray (some ((0 : Nat) : Int)) none (some 2)).toList 0), (D, listO ys k5), (57, tabObj #[]), (163, tabObj #[])] := hX.2.1
    have xaa : I8.get? aa = some (listO (slicePick ys.toArray (some ((1 : Nat) : Int)) none (some 2)).toList 0) := hX.2.2
    clear hX
    refine Exists.elim (F8.settle (p := (ea, listO (slicePick ys.toArray (some ((0 : Nat) : Int)) none (some 2)).toList 0)) 0 rfl) fun I9 hX => ?_
    have kI9 := hX.1
    have F9 : Fm I9 L h7 _ [(D, listO ys k5), (57, tabObj #[]), (163, tabObj #[])] := hX.2.1
    have xea : I9.get? ea = some (listO (slicePick ys.toArray (some ((0 : Nat) : Int)) none (some 2)).toList 0) := hX.2.2
    clear hX
    have F10 := F9.tail
    have k09 : I.StaysIn I9 := fun b o e => kI9 _ _ (kI8 _ _ (hI1 _ _ e))
    have G9 := G.keeps k09
    refine wpAny_items_nil ⟨(G9.keeps F10.keep).kin, ?_⟩
    show wpAny _ _ (call (.ref 166) [.ref ea, .ref aa]) _ _ _
    refine wpAny_call (main_spec w mg mb Es As ea aa _ _ 0 0 A I9 h7 g d _ os _ G9 rm.le F10.keep (C163.keeps k09) (C57.keeps k09) (F10.get (.tail _ (.head _))) (F10.get (.head _)) (F10.mus _ (.tail _ (.head _))).2.2 (F10.mus _ (.head _)).2.2 hEl hAl (fun e he => hTlead _ (hEm e he)) (fun e he => hTlead _ (hAm e he)) xea hEs (kI9 _ _ xaa) hAs fun h8 tk8 k8 t57 t163 => ?_)
    dsimp only
    exact hret h8 _ (fun b o e => k8 _ _ (k09 _ _ e)) t57 t163

theorem fm_of {I h : Heap} {L : Addr} {m : Str → Option Value} {mu : Led} (F : Fr I L h m) (N : News I L h mu) (nd : (mu.map (·.1)).Nodup) : Fm I L h m mu :=
  ⟨F.ns, F.keep, isNone_of fun o e => absurd (Heap.lt_size e) (Nat.not_lt.mpr F.above), fun p hp => N p hp, nd⟩
set_option maxHeartbeats 8000000 in
theorem joined : PySem.Challenge.rw_in0106_01.Holds := hd (by
  k_go0
  refine' law_body _ ?mg ?mb _ _ ?sa _ ?vs ?ns _ (ghostOf ?h1 [(61, 57), (165, 163)]) _ ?m _ _ _ _ _ _ ?g ?rm ?c1 ?c2 ?F ?mS ?hs ?hv ?hn ?ret
  case F => exact fm_of (by assumption) (by assumption) (by decide)
  case g => exact Gd.of_top (by assumption) (by assumption)
  case rm => exact Rm.deeper (d := 15) (u := 133) (⟨rfl, by decide, by decide⟩ : Rm callerA 15 133) _
  case c1 => assumption
  case c2 => assumption
  case hs => assumption
  case hv => assumption
  case mS => exact rfl
  case hn => omega
  case ret =>
    intro h' tk' kk t57 t163
    refine ⟨⟨.inl ⟨_, .bool true, [], rfl, ?raisg, .bool _, ?postg, unshared_nil⟩, kk, rfl, ?gensg⟩, t57, t163, True.intro⟩
    case gensg => assumption
    case raisg => exact fun _ => rfl
    case postg => first | exact rfl | exact postW_of rfl rfl (by decide +kernel))
end Mine
theorem PySem.Challenge.cw_in0106_01_holds : PySem.Challenge.rw_in0106_01.Holds :=
  Mine.joined
