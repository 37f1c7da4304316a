import PyProof.Rows.All
import Wide.All
import OpenK.AllK
import Wide.FinOn
import PySem.Challenge.RW_xy0002_05
open PySem PySem.W PyProof.Rows PySem.Calls PySem.Spec
set_option Elab.async false
set_option maxRecDepth 100000
set_option compiler.extract_closed false
set_option linter.all false
namespace Mine05
def dropAt {α : Type} : Nat → List α → List α
  | _, [] => []
  | 0, _ :: r => r
  | n + 1, a :: r => a :: dropAt n r
/-- the text's top without the module's own names -/
def view : Program := { PySem.Challenge.rw_xy0002_05.row.toRowW.prog with main := { PySem.Challenge.rw_xy0002_05.row.toRowW.prog.main with body := dropAt 1 (dropAt 4 (PySem.Challenge.rw_xy0002_05.row.toRowW.prog.main.body)) } }
end Mine05
section
local macro_rules | `(tactic| o_head (kHook $K $A $e)) => `(tactic| (refine holds_open (q := Mine05.view) (loose := []) (Xt := fun s => xlAt Mine05.view [] s && recOk (RowW.records (OpenRow.toRowW (OpenLaw.row PySem.Challenge.rw_xy0002_05))) s) (XP := XL Mine05.view []) (Yf := Hook.obs (kmHook $K $A $e [234, 241])) (Ya := Hook.val (kmHook $K $A $e [234, 241])) (YP := Hook.says (kmHook $K $A $e [234, 241])) (N := 2936) ?hl (Hook.of (kmHook $K $A $e [234, 241])) (Hook.keeps (kmHook $K $A $e [234, 241])) (fun s e => xl_of s (Bool.and_eq_true_iff.mp e).1) XL.keeps (by rfl) (by rfl) (by rfl) (fun s e => recFacts_of (Bool.and_eq_true_iff.mp e).2) (by rfl) (by first | assumption | decide +kernel) (by decide +kernel) ⟨rfl, rfl, rfl, rfl, rfl, by decide +kernel⟩ ?hw ?hc; (case hl => intro w; kernel_rfl)))
set_option maxRecDepth 100000 in
set_option maxHeartbeats 8000000 in
open_top hd05 for PySem.Challenge.rw_xy0002_05
end
section
namespace Mine05
abbrev Led := List (Addr × Obj)
def Sub (a b : Led) : Prop := ∀ p ∈ a, p ∈ b
theorem Sub.get {a b : Led} (h : Sub a b) {p : Addr × Obj} (m : p ∈ a) : p ∈ b := h p m
def Spec (w : World) (mean : ExcName → Option Value) (mg mb : Str → Option Value) (f : Addr) (args : List Value) (need : Nat) (news : Led) (Out : Value → Led → Prop) : Prop :=
  ∀ (dp un : Nat) (gd : Option (List Code)) (cn : Str) (cs : Scope) (a : Addr) (ccd : Value) (cl : List (Str × Addr)) (outer : List Env) (A₀ : Around) (base h₀ : Heap) (L : Addr) (m : Str → Option Value) (s : Shared) (Q E : Value → Shared → Prop),
    Below A₀ base outer h₀ → Fr h₀ L s.heap m → (hd05.heap_39 w.params).In h₀ → News h₀ L s.heap news → Top topProg (looseW Mine05.view [] ++ (recsOf Mine05.view).map (·.name) ++ (litsOf Mine05.view).map (·.1) ++ (clssOf Mine05.view (looseW Mine05.view [])).map (·.name)) mean mg mb h₀ → cs.kind = .function →
    dp + need < recursionLimit → un + 8 * need < cLine →
    (∀ r nw h' tk', Fr h₀ L h' m → News h₀ L h' nw → Sub news nw → Out r nw → Q r { s with heap := h', toks := tk' }) →
    codeAny (model PySem.Challenge.rw_xy0002_05.row.toRowW.prog w) (ktrTop dp un gd cn cs L a ccd cl outer) (.call (.ref f) ⟨args, []⟩) (fun r s' => match r with | .ok (.ret v) => Q v s' | .ok _ => False | .error e => E e s') s
theorem Spec.use {w : World} {mean : ExcName → Option Value} {mg mb : Str → Option Value} {f : Addr} {args : List Value} {need : Nat} {news : Led} {Out : Value → Led → Prop}
    (h : Spec w mean mg mb f args need news Out)
    {dp un : Nat} {gd : Option (List Code)} {cn : Str} {cs : Scope} {a : Addr} {ccd : Value} {cl : List (Str × Addr)} {outer : List Env} {A₀ : Around} {base h₀ : Heap} {L : Addr} {m : Str → Option Value} {s : Shared} {Q E : Value → Shared → Prop}
    (B : Below A₀ base outer h₀) (F : Fr h₀ L s.heap m) (X : (hd05.heap_39 w.params).In h₀) (N : News h₀ L s.heap news) (T : Top topProg (looseW Mine05.view [] ++ (recsOf Mine05.view).map (·.name) ++ (litsOf Mine05.view).map (·.1) ++ (clssOf Mine05.view (looseW Mine05.view [])).map (·.name)) mean mg mb h₀) (hk : cs.kind = .function)
    (hd : dp + need < recursionLimit) (hu : un + 8 * need < cLine)
    (ret : ∀ r nw h' tk', Fr h₀ L h' m → News h₀ L h' nw → Sub news nw → Out r nw → Q r { s with heap := h', toks := tk' }) :
    codeAny (model PySem.Challenge.rw_xy0002_05.row.toRowW.prog w) (ktrTop dp un gd cn cs L a ccd cl outer) (.call (.ref f) ⟨args, []⟩) (fun r s' => match r with | .ok (.ret v) => Q v s' | .ok _ => False | .error e => E e s') s :=
  h dp un gd cn cs a ccd cl outer A₀ base h₀ L m s Q E B F X N T hk hd hu ret

inductive ListIn (news : Led) (v : Value) (ns : List Int) : Prop
  | mk (l vs k) (a0 : v = .ref l) (a1 : (l, W.listOf (List.toArray vs) k) ∈ news) (a2 : IntsAre vs ns)
inductive RingIn (nw : Led) (rg : Addr) (q : Int) (n : Nat) : Prop
  | mk (d h1 k1 h2 k2 tq tn c) (a0 : (rg, instObj 59 d) ∈ nw) (a1 : (d, W.dictOf [⟨h1, .str (Str.ofString "q") k1, .int q tq⟩, ⟨h2, .str (Str.ofString "n") k2, .int (n : Int) tn⟩] c) ∈ nw)
inductive PolyIn (nw : Led) (v : Value) (rg : Addr) (cs : List Int) : Prop
  | mk (f d h1 k1 h2 k2 l vs k c) (a0 : v = .ref f) (a1 : (f, instObj 220 d) ∈ nw) (a2 : (d, W.dictOf [⟨h1, .str (Str.ofString "parent") k1, .ref rg⟩, ⟨h2, .str (Str.ofString "coeffs") k2, .ref l⟩] c) ∈ nw) (a3 : (l, W.listOf (List.toArray vs) k) ∈ nw) (a4 : IntsAre vs cs)
theorem ListIn.mk' {news : Led} {l : Addr} {vs : List Value} {k : Nat} {ns : List Int} (m : (l, W.listOf (List.toArray vs) k) ∈ news) (i : IntsAre vs ns) : ListIn news (.ref l) ns := ⟨_, _, _, rfl, m, i⟩
theorem ListIn.elim {news : Led} {v : Value} {ns : List Int} {C : Prop} (h : ListIn news v ns) (k : ∀ l vs k, v = .ref l → (l, W.listOf (List.toArray vs) k) ∈ news → IntsAre vs ns → C) : C :=
  let ⟨l, vs, kk, e, m, i⟩ := h; k l vs kk e m i
theorem RingIn.mk' {nw : Led} {rg d : Addr} {q : Int} {n : Nat} {h1 h2 : Int} {k1 k2 tq tn : Tok} {c : Nat} (m1 : (rg, instObj 59 d) ∈ nw) (m2 : (d, W.dictOf [⟨h1, .str (Str.ofString "q") k1, .int q tq⟩, ⟨h2, .str (Str.ofString "n") k2, .int (n : Int) tn⟩] c) ∈ nw) : RingIn nw rg q n := ⟨_, _, _, _, _, _, _, _, m1, m2⟩
theorem RingIn.elim {nw : Led} {rg : Addr} {q : Int} {n : Nat} {C : Prop} (h : RingIn nw rg q n) (k : ∀ d h1 k1 h2 k2 tq tn c, (rg, instObj 59 d) ∈ nw → (d, W.dictOf [⟨h1, .str (Str.ofString "q") k1, .int q tq⟩, ⟨h2, .str (Str.ofString "n") k2, .int (n : Int) tn⟩] c) ∈ nw → C) : C :=
  let ⟨d, h1, k1, h2, k2, tq, tn, c, m1, m2⟩ := h; k d h1 k1 h2 k2 tq tn c m1 m2
theorem PolyIn.mk' {nw : Led} {f rg d l : Addr} {cs : List Int} {h1 h2 : Int} {k1 k2 : Tok} {vs : List Value} {k c : Nat} (m1 : (f, instObj 220 d) ∈ nw) (m2 : (d, W.dictOf [⟨h1, .str (Str.ofString "parent") k1, .ref rg⟩, ⟨h2, .str (Str.ofString "coeffs") k2, .ref l⟩] c) ∈ nw) (m3 : (l, W.listOf (List.toArray vs) k) ∈ nw) (i : IntsAre vs cs) : PolyIn nw (.ref f) rg cs := ⟨_, _, _, _, _, _, _, _, _, _, rfl, m1, m2, m3, i⟩
theorem PolyIn.elim {nw : Led} {v : Value} {rg : Addr} {cs : List Int} {C : Prop} (h : PolyIn nw v rg cs) (k : ∀ f d h1 k1 h2 k2 l vs k c, v = .ref f → (f, instObj 220 d) ∈ nw → (d, W.dictOf [⟨h1, .str (Str.ofString "parent") k1, .ref rg⟩, ⟨h2, .str (Str.ofString "coeffs") k2, .ref l⟩] c) ∈ nw → (l, W.listOf (List.toArray vs) k) ∈ nw → IntsAre vs cs → C) : C :=
  let ⟨f, d, h1, k1, h2, k2, l, vs, kk, c, e, m1, m2, m3, i⟩ := h; k f d h1 k1 h2 k2 l vs kk c e m1 m2 m3 i
/-- a new object: its dict stands at none of the old places -/
inductive PolyNew (news nw : Led) (v : Value) (rg : Addr) (cs : List Int) : Prop
  | mk (f d h1 k1 h2 k2 l vs k c) (a0 : v = .ref f) (a1 : (f, instObj 220 d) ∈ nw) (a2 : (d, W.dictOf [⟨h1, .str (Str.ofString "parent") k1, .ref rg⟩, ⟨h2, .str (Str.ofString "coeffs") k2, .ref l⟩] c) ∈ nw) (a3 : (l, W.listOf (List.toArray vs) k) ∈ nw) (a4 : IntsAre vs cs) (a5 : ∀ p ∈ news, p.1 ≠ d)
theorem PolyNew.elim {news nw : Led} {v : Value} {rg : Addr} {cs : List Int} {C : Prop} (h : PolyNew news nw v rg cs) (k : ∀ f d h1 k1 h2 k2 l vs k c, v = .ref f → (f, instObj 220 d) ∈ nw → (d, W.dictOf [⟨h1, .str (Str.ofString "parent") k1, .ref rg⟩, ⟨h2, .str (Str.ofString "coeffs") k2, .ref l⟩] c) ∈ nw → (l, W.listOf (List.toArray vs) k) ∈ nw → IntsAre vs cs → (∀ p ∈ news, p.1 ≠ d) → C) : C :=
  let ⟨f, d, h1, k1, h2, k2, l, vs, kk, c, e, m1, m2, m3, i, n⟩ := h; k f d h1 k1 h2 k2 l vs kk c e m1 m2 m3 i n
theorem allLt_ne {d : Addr} : ∀ {l : Led}, AllLt d l → ∀ p ∈ l, p.1 ≠ d
  | [], _, _, h => nomatch h
  | q :: r, h, p, hp => by
    rcases List.mem_cons.mp hp with rfl | hp
    · exact Nat.ne_of_lt h.1
    · exact allLt_ne h.2 p hp
/-- where the walk is to stand still -/
def Halt (P : Prop) : Prop := P
theorem halt_of {P : Prop} (h : Halt P) : P := h
/-- the bits that a product may have -/
def Bd (x : Int) : Prop := Builtin.Int.intBits x ≤ 2 ^ 22
theorem mulOk_bd {a b : Int} (ha : Bd a) (hb : Bd b) : IntMulOk a b := by
  unfold Bd at ha hb
  have h : Builtin.Int.intTooBig (Builtin.Int.intBits a + Builtin.Int.intBits b) = false := by
    unfold Builtin.Int.intTooBig bitsLine
    exact decide_eq_false (by omega)
  unfold IntMulOk
  rw [h]
  simp
theorem bd_all2 {as : List Int} {a : Int} (m : a ∈ as) (h : ∀ x ∈ as, Bd x) : Bd a := h a m
theorem bd_small {x : Int} (h1 : -(2 ^ 64) < x) (h2 : x < 2 ^ 64) : Bd x := Nat.le_trans (intBits_le_64 h1 h2) (by decide)
theorem bd_fmod {x q : Int} (h1 : 0 < q) (h2 : q ≤ 65536) : Bd (Int.fmod x q) := by
  have a := fmod_lo x h1
  have b := fmod_hi x h1
  exact bd_small (by omega) (by omega)
section
variable {prog : Program} {w : World} {A : Around} {E : Value → Shared → Prop} {s : Shared} {h₀ : Heap} {L : Addr} {m : Str → Option Value} {news : Led}
theorem copy_L {l : Addr} {vs : List Value} {k : Nat} {Q : Value → Shared → Prop} (F : Fr h₀ L s.heap m) (N : News h₀ L s.heap news) (hm : (l, W.listOf vs.toArray k) ∈ news)
    (h : ∀ D h', Fr h₀ L h' m → News h₀ L h' ((D, W.listOf vs.toArray 0) :: news) → (∀ p ∈ news, p.1 < D) → Q (.ref D) { s with heap := h' })
    (hsz : vs.length ≤ sizeLine) : wpAny (model prog w) A (call (.builtin "list.copy") [.ref l]) Q E s :=
  copy_list F N (News.isList N hm) (fun h' F' N' => h _ h' F' N' fun p hp => Heap.lt_size (N p hp).1) hsz
end
end Mine05
end
section
namespace Mine05
theorem off1_ne {D : Addr} : ∀ {l : Led}, LCg.Off1 D l → ∀ p ∈ l, p.1 ≠ D
  | [], _, _, h => nomatch h
  | q :: r, h, p, hp => by
    rcases List.mem_cons.mp hp with rfl | hp
    · exact h.1
    · exact off1_ne h.2 p hp
theorem bd_getD {as : List Int} (h : ∀ x ∈ as, Bd x) (k : Nat) : Bd (as.getD k 0) := by
  rw [List.getD_eq_getElem?_getD]
  cases e : as[k]? with
  | none => exact bd_small (by decide) (by decide)
  | some x => exact h x (List.mem_of_getElem? e)
theorem cmpBack_ref {Q : Value → Shared → Prop} {f : Addr} {s' : Shared} (h : Q (.ref f) s') : W.CmpBack Q (.ref f) s' := h
theorem cmpBack_bool {Q : Value → Shared → Prop} {b : Bool} {s' : Shared} (h : Q (.bool b) s') : W.CmpBack Q (.bool b) s' := h
/-- the end of a turn that changes one list of ints -/
def LEnd (h₀ : Heap) (L : Addr) (stored : List Str) (x : Str) (m₀ : Str → Option Value) (D : Addr) (zn : Led) (ns : List Int) (s₁ : Shared) (Q : Flow → Shared → Prop) (f : Flow) (s₂ : Shared) : Prop :=
  match f with
  | .ret v => Q (.ret v) s₂
  | .brk => Q .next s₂
  | _ => ∃ h' tk m' vs k nw, s₂ = { s₁ with heap := h', toks := tk } ∧ Fr h₀ L h' m' ∧ (∀ z, z ≠ x → stored.contains z = false → m' z = m₀ z) ∧ News h₀ L h' nw ∧ (D, W.listOf (List.toArray vs) k) ∈ nw ∧ Sub zn nw ∧ IntsAre vs ns
section
variable {prog : Program} {w : World} {A : Around} {E : Value → Shared → Prop} {s : Shared} {env : Env} {h₀ : Heap} {x : Str} {body : List Stmt} {Q : Flow → Shared → Prop}
theorem loop_rl {r : Addr} {a₀ b₀ : Int} {t₀ u₀ v₀ : Tok} {n : Nat} {D : Addr} {vs₀ : List Value} {k₀ : Nat} {m₀ : Str → Option Value} {news : Led} (stored : List Str) (G : Nat → List Int)
    (hh : A.handled = none) (hr : IsRange s.heap r a₀ b₀ 1 t₀ u₀ v₀) (hbd : -(2 ^ 62) ≤ a₀ ∧ a₀ < 2 ^ 62 ∧ -(2 ^ 62) ≤ b₀ ∧ b₀ < 2 ^ 62) (hnn : (b₀ - a₀).toNat = n)
    (F : Fr h₀ env.locals s.heap m₀) (N : News h₀ env.locals s.heap ((D, W.listOf vs₀.toArray k₀) :: news)) (hD : ∀ p ∈ news, p.1 ≠ D) (hi : IntsAre vs₀ (G 0))
    (turn : ∀ (i : Nat) (u : Str → Option Value) h tk vs k t zn, i < n → IntsAre vs (G i) → Sub news zn → (∀ p ∈ zn, p.1 ≠ D) →
      Fr h₀ env.locals h (fun y => if y = x then some (.int (a₀ + (i : Int)) t) else if stored.contains y then u y else m₀ y) → News h₀ env.locals h ((D, W.listOf (List.toArray vs) k) :: zn) →
      wpAny (model prog w) A (execs body env) (LEnd h₀ env.locals stored x m₀ D zn (G (i + 1)) { s with heap := h, toks := tk } Q) E { s with heap := h, toks := tk })
    (done : ∀ (u : Str → Option Value) h tk vs k, IntsAre vs (G n) → Fr h₀ env.locals h (fun y => if y = x then u y else if stored.contains y then u y else m₀ y) → News h₀ env.locals h ((D, W.listOf (List.toArray vs) k) :: news) → Q .next { s with heap := h, toks := tk }) :
    wpAny (model prog w) A (pyIter (.ref r)) (fun it s₂ => LoopAtV prog w A h₀ env x body Q E it s₂) E s := by
  have hsmall : Builtin.Range.small a₀ b₀ 1 = true := small_one hbd.1 hbd.2.1 hbd.2.2.1 hbd.2.2.2
  have hn : Builtin.Range.rangeSize a₀ b₀ 1 = (n : Int) := by rw [rangeSize_nat, hnn]
  refine wpAny_pyIter_range hr hsmall ?_
  have Wk : Walks prog w A s.heap.objs.size [s.heap.objs.size] [s.heap.objs.size] n (fun i v => i < n ∧ ∃ t, v = .int (a₀ + i * 1) t)
      (fun i h => IsRangeIter h s.heap.objs.size (a₀ + (i : Nat) * 1) ((n : Int) - (i : Nat)) 1) := (Walks.range hh _ a₀ 1 n).bound
  refine loop_invN (fun i m nx => (∃ vs k, nx = (D, W.listOf (List.toArray vs) k) :: news ∧ IntsAre vs (G i)) ∧ ∀ z, z ≠ x → stored.contains z = false → m z = m₀ z) Wk ?_ ?_ ?_ ?_ (by show IsRangeIter _ _ _ _ _; rw [hn]; simpa using Heap.get?_push_size _ rfl) (F.push _) (fun p hp => ⟨Heap.get?_push_of_some _ (N p hp).1, (N p hp).2⟩) ⟨⟨vs₀, k₀, rfl, hi⟩, fun _ _ _ => rfl⟩ ?_ ?_
  · intro hm
    exact absurd F.ns.lt ((List.mem_singleton.mp hm) ▸ Nat.lt_irrefl _)
  · intro b hb
    rw [List.mem_singleton.mp hb]
    exact next_is_new F
  · intro p hp hI
    exact absurd (Heap.lt_size (N p hp).1) ((List.mem_singleton.mp hI) ▸ Nat.lt_irrefl _)
  · intro p hp hI
    exact absurd (Heap.lt_size (N p hp).1) ((List.mem_singleton.mp hI) ▸ Nat.lt_irrefl _)
  · rintro i v m₁ nx h tk own hin ⟨_, t, rfl⟩ _ hoff ⟨⟨vs, k, rfl, hI⟩, hm⟩ F₁ N₁
    have e1 : a₀ + (i : Int) * 1 = a₀ + (i : Int) := by omega
    rw [e1] at F₁
    have em : (fun y => if y = x then some (Value.int (a₀ + (i : Int)) t) else m₁ y) = fun y => if y = x then some (Value.int (a₀ + (i : Int)) t) else if stored.contains y then m₁ y else m₀ y := by
      funext y
      by_cases h1 : y = x
      · simp [h1]
      · cases h2 : stored.contains y with
        | true => simp
        | false => simp [h1, hm y h1 h2]
    rw [em] at F₁
    rw [List.cons_append] at N₁
    have hoffD : ∀ p ∈ news ++ own, p.1 ≠ D := fun p hp => by
      rcases List.mem_append.mp hp with hp | hp
      · exact hD p hp
      · exact hoff p hp D (by simp)
    refine wpAny_mono (turn i m₁ h tk vs k t (news ++ own) hin hI (fun p hp => List.mem_append_left _ hp) hoffD F₁ N₁) (fun f s₂ p => ?_) fun _ _ e => e
    have fin : (∃ h' tk' m' vs k nw, s₂ = { ({ s with heap := h, toks := tk } : Shared) with heap := h', toks := tk' } ∧ Fr h₀ env.locals h' m' ∧ (∀ z, z ≠ x → stored.contains z = false → m' z = m₀ z) ∧ News h₀ env.locals h' nw ∧ (D, W.listOf (List.toArray vs) k) ∈ nw ∧ Sub (news ++ own) nw ∧ IntsAre vs (G (i + 1))) →
        InvEndN h₀ env.locals (fun m nx => (∃ vs k, nx = (D, W.listOf (List.toArray vs) k) :: news ∧ IntsAre vs (G (i + 1))) ∧ ∀ z, z ≠ x → stored.contains z = false → m z = m₀ z) own (((D, W.listOf vs₀.toArray k₀) :: news).map (·.1)) { s with heap := h, toks := tk } s₂ := by
      rintro ⟨h', tk', m', vs', k', nw, rfl, F', hm', N', hmD, hS, hI'⟩
      refine ⟨h', tk', m', nw, (D, W.listOf (List.toArray vs') k') :: news, rfl, F', N', fun p hp => ?_, fun p hp => hS p (List.mem_append_right _ hp), rfl, ⟨vs', k', rfl, hI'⟩, hm'⟩
      rcases List.mem_cons.mp hp with rfl | hp
      · exact hmD
      · exact hS p (List.mem_append_left _ hp)
    cases f with
    | ret v => exact p
    | brk => exact p
    | next => exact fin p
    | cont => exact fin p
  · rintro m₁ nx h tk ⟨⟨vs, k, rfl, hI⟩, hm⟩ F₁ N₁
    have em : (fun y => if y = x then m₁ y else if stored.contains y then m₁ y else m₀ y) = m₁ := by
      funext y
      by_cases h1 : y = x
      · simp [h1]
      · cases h2 : stored.contains y with
        | true => simp
        | false => simp [h1, hm y h1 h2]
    exact done m₁ h tk vs k hI (by rw [em]; exact F₁) N₁
theorem LEnd.intro {L : Addr} {stored : List Str} {m₀ m' : Str → Option Value} {D : Addr} {zn nw : Led} {ns : List Int} {s₁ : Shared} {h' : Heap} {tk : Nat} {vs : List Value} {k : Nat} (F : Fr h₀ L h' m') (N : News h₀ L h' nw) (hm : (D, W.listOf (List.toArray vs) k) ∈ nw) (S : Sub zn nw) (hI : IntsAre vs ns)
    (hr : ∀ z, z ≠ x → stored.contains z = false → m' z = m₀ z) : LEnd h₀ L stored x m₀ D zn ns s₁ Q .next { s₁ with heap := h', toks := tk } :=
  ⟨h', tk, m', vs, k, nw, rfl, F, hr, N, hm, S, hI⟩
end
/-- the product's loops, as the text has them -/
def inner1 (a b : List Int) (i : Nat) : Nat → List Int → List Int
  | 0, c => c
  | j + 1, c => let c' := inner1 a b i j c; c'.set (i + j) (c'.getD (i + j) 0 + a.getD i 0 * b.getD j 0)
def outer1 (a b : List Int) (n : Nat) : Nat → List Int
  | 0 => List.replicate n 0
  | i + 1 => inner1 a b i (n - i) (outer1 a b n i)
def inner2 (a b : List Int) (n j : Nat) : Nat → List Int → List Int
  | 0, c => c
  | t + 1, c => let c' := inner2 a b n j t c; c'.set t (c'.getD t 0 - a.getD (n - j + t) 0 * b.getD j 0)
def outer2 (a b : List Int) (n : Nat) : Nat → List Int
  | 0 => outer1 a b n n
  | s + 1 => inner2 a b n (s + 1) (s + 1) (outer2 a b n s)
def sbook (a b : List Int) (n : Nat) : List Int := outer2 a b n (n - 1)
def mulq (q : Int) (n : Nat) (a b : List Int) : List Int := (sbook a b n).map fun c => Int.fmod c q
theorem bd_mapf {q : Int} (h : 0 < q) (h2 : q ≤ 65536) (f : Int → Int) (l : List Int) : ∀ a ∈ l.map (fun c => Int.fmod (f c) q), Bd a := fun a ha => by
  obtain ⟨x, _, rfl⟩ := List.mem_map.mp ha
  exact bd_fmod h h2
theorem inner1_length (a b : List Int) (i : Nat) : ∀ j c, (inner1 a b i j c).length = c.length
  | 0, _ => rfl
  | j + 1, c => by rw [inner1, List.length_set, inner1_length]
theorem outer1_length (a b : List Int) (n : Nat) : ∀ i, (outer1 a b n i).length = n
  | 0 => by rw [outer1, List.length_replicate]
  | i + 1 => by rw [outer1, inner1_length, outer1_length]
theorem inner2_length (a b : List Int) (n j : Nat) : ∀ t c, (inner2 a b n j t c).length = c.length
  | 0, _ => rfl
  | t + 1, c => by rw [inner2, List.length_set, inner2_length]
theorem outer2_length (a b : List Int) (n : Nat) : ∀ s, (outer2 a b n s).length = n
  | 0 => by rw [outer2, outer1_length]
  | s + 1 => by rw [outer2, inner2_length, outer2_length]
end Mine05
end
section
namespace Mine05
theorem ListIn.mono {a b : Led} {v : Value} {ns : List Int} (h : ListIn a v ns) (s : Sub a b) : ListIn b v ns := by
  obtain ⟨l, vs, k, e, m, i⟩ := h
  exact ⟨l, vs, k, e, s _ m, i⟩
section
variable {prog : Program} {w : World} {A : Around} {E : Value → Shared → Prop} {s : Shared} {env : Env} {h₀ : Heap} {x : Str} {body : List Stmt} {Q : Flow → Shared → Prop}
end
end Mine05
end
section
namespace Mine05
open LCg LCp
/-- the end of an element's value in a comprehension over zip -/
def ZEnd (h₀ : Heap) (L : Addr) (m : Str → Option Value) (s : Shared) (led : Led) (r : Int) (y : Value) (s' : Shared) : Prop :=
  ∃ h' tk' t, s' = { s with heap := h', toks := tk' } ∧ y = .int r t ∧ Fr h₀ L h' m ∧ News h₀ L h' led
section
variable {prog : Program} {w : World} {A : Around} {E : Value → Shared → Prop} {s : Shared} {h₀ : Heap} {L : Addr} {m : Str → Option Value} {env : Env}
abbrev ZSt (z TI TO i1 i2 l1 l2 : Addr) (xs ys : Array Value) (i : Nat) (h : Heap) : Prop :=
  IsZip h z TI TO .none ∧ IsPair h TI (.ref i1) (.ref i2) ∧ (∃ a b, IsPair h TO a b) ∧ h.IsListIter i1 l1 i ∧ h.IsListIter i2 l2 i ∧ h.IsList l1 xs ∧ h.IsList l2 ys
/-- what stands at the head of each turn -/
inductive ZInv (h₀ : Heap) (L : Addr) (m : Str → Option Value) (s₂ : Shared) (z TI TO i1 i2 l1 l2 D C : Addr) (xs ys : List Value) (as rs : List Int) (news : Led) (k : Nat) (s' : Shared) : Prop
  | mk (h' : Heap) (tk i : Nat) (vs : List Value) (m' : Str → Option Value) (e : s' = { s₂ with heap := h', toks := tk }) (hi : i ≤ as.length) (ek : k = as.length + 1 - i) (hvl : vs.length = i) (hst : ZSt z TI TO i1 i2 l1 l2 xs.toArray ys.toArray i h') (F : Fr h₀ L h' m) (hn : h'.Ns C m') (hD : h'.get? D = some (lst vs)) (N : News h₀ L h' news) (hI : IntsAre vs (rs.take i))
theorem comp_kind {scope : Scope} {cl : List (Str × Addr)} {C : Addr} (hkind : scope.kind = .function) : ((compEnvC scope cl C env).scope.kind == .class || ((compEnvC scope cl C env).scope.kind == .module && (compEnvC scope cl C env).locals != (compEnvC scope cl C env).globals)) = false := by simp [compEnvC, relabel, hkind]
theorem blockZ {elt iter : Expr} {x x₂ : Str} {px px₂ tp : Pos} {tk0} {scope : Scope} {cl : List (Str × Addr)} {pos : Pos} {s₂ : Shared} {z TI TO i1 i2 l1 l2 : Addr} {xs ys : List Value} {as bs : List Int} (g : Int → Int → Int) {news : Led}
    {RR : Value → Addr → Result → Shared → Prop}
    (hh : A.handled = none) (D : ZipApart z TI TO i1 i2 l1 l2) (hst : ZSt z TI TO i1 i2 l1 l2 xs.toArray ys.toArray 0 s₂.heap) (hi1 : IntsAre xs as) (hi2 : IntsAre ys bs) (hlen : as.length = bs.length) (hsz : as.length ≤ sizeLine)
    (hcell : ∀ y ∈ scope.names, y.2 ≠ .cell) (hkind : scope.kind = .function) (hx : scope.names.lookup x = some .local) (hx₂ : scope.names.lookup x₂ = some .local) (hxx : x ≠ x₂)
    (F : Fr h₀ L s₂.heap m) (N : News h₀ L s₂.heap news) (hz : ∀ b ∈ [z, TI, TO, i1, i2], L ≠ b ∧ h₀.get? b = none ∧ ∀ p ∈ news, p.1 ≠ b)
    (hlists : ∀ h, (∀ b o, h₀.get? b = some o → h.get? b = some o) → News h₀ L h news → h.IsList l1 xs.toArray ∧ h.IsList l2 ys.toArray)
    (turn : ∀ a b ta tb C oC D₁ m₂ vs h tk zn (E' : Value → Shared → Prop), a ∈ as → b ∈ bs → NsObj oC m₂ → m₂ x = some (.int a ta) → m₂ x₂ = some (.int b tb) → Fr h₀ L h m → Sub news zn → News h₀ L h ((C, oC) :: (D₁, lst vs) :: zn) →
      wpAny (model prog w) A (eval elt (compEnvC scope cl C env)) (ZEnd h₀ L m { s₂ with heap := h, toks := tk } ((C, oC) :: (D₁, lst vs) :: zn) (g a b)) E' { s₂ with heap := h, toks := tk })
    (hRR : ∀ D₁ C h tk m' vs, Fr h₀ L h m → News h₀ L h ((D₁, lst vs) :: news) → (∀ p ∈ news, p.1 ≠ D₁) → h.Ns C m' → h₀.get? C = none → h₀.get? D₁ = none → C ≠ L → D₁ ≠ L → C ≠ D₁ → (∀ p ∈ news, p.1 ≠ C) → IntsAre vs (List.zipWith g as bs) → RR (.ref D₁) C (.ok .next) { s₂ with heap := h, toks := tk }) :
    wpAny (model prog w) A (newList []) (fun acc s₃ => wpAny (model prog w) A (newFunctionEnv scope env.globals cl [] env.qual none .none (some env)) (fun cenv s₄ =>
      codeAny (model prog w) A (.compStart (.ListComp elt [⟨.Tuple [.Name x px, .Name x₂ px₂] tk0 tp, iter, [], 0⟩] scope pos) 0 (.ref z) acc { cenv with scope := relabel scope env }) (RR acc cenv.locals) s₄) E s₃) E s₂ := by
  have W := WalksT.zip2 (prog := prog) (w := w) hh z TI TO i1 i2 l1 l2 D xs.toArray ys.toArray
  have hn : min xs.toArray.size ys.toArray.size = as.length := by rw [List.size_toArray, List.size_toArray, hi1.length, hi2.length, hlen, Nat.min_self]
  rw [hn] at W
  have hfp : ∀ b ∈ [z, TI, TO, i1, i2, l1, l2], b < s₂.heap.objs.size := by
    obtain ⟨q1, q2, ⟨_, _, q3⟩, ⟨_, q4, _⟩, ⟨_, q5, _⟩, ⟨_, q6, _⟩, ⟨_, q7, _⟩⟩ := hst
    intro b hb
    simp only [List.mem_cons, List.not_mem_nil, or_false] at hb
    rcases hb with rfl | rfl | rfl | rfl | rfl | rfl | rfl <;> exact Heap.lt_size (by assumption)
  refine wpAny_newObj_type (wpAny_newFunctionEnv hcell (by intro y hy; simp at hy) (fun h₁ hns₁ hsb₁ => ?_) hkind)
  dsimp only at hns₁ hsb₁ ⊢
  generalize hH2 : s₂.heap.push { cls := .type "list", dict := none, data := .seq ([] : List Value).toArray } = H2 at hns₁ hsb₁ ⊢
  have hC : H2.objs.size = s₂.heap.objs.size + 1 := by rw [← hH2, Heap.size_push]
  have hDC : s₂.heap.objs.size ≠ H2.objs.size := by rw [hC]; exact Nat.ne_of_lt (Nat.lt_succ_self _)
  have below : ∀ b, b < s₂.heap.objs.size → b ≠ H2.objs.size ∧ b ≠ s₂.heap.objs.size := fun b hb => ⟨by rw [hC]; exact Nat.ne_of_lt (Nat.lt_succ_of_lt hb), Nat.ne_of_lt hb⟩
  have old : ∀ b o, s₂.heap.get? b = some o → h₁.get? b = some o := fun b o e => hsb₁.extBut b o (below b (Heap.lt_size e)).1 (Heap.get?_push_of_some _ (hH2 ▸ Heap.get?_push_of_some _ e))
  have hacc : h₁.get? s₂.heap.objs.size = some (lst []) := hsb₁.extBut _ _ hDC (Heap.get?_push_of_some _ (hH2 ▸ Heap.get?_push_size _ rfl))
  have hst₁ : ZSt z TI TO i1 i2 l1 l2 xs.toArray ys.toArray 0 h₁ := W.frame _ _ _ hst fun b _ o e => old b o e
  have fresh : ∀ a, s₂.heap.objs.size ≤ a → s₂.heap.get? a = none := fun a ha => by
    cases e : s₂.heap.get? a with
    | none => rfl
    | some o' => exact absurd (Heap.lt_size e) (Nat.not_lt.mpr ha)
  have fresh₀ : ∀ a, s₂.heap.objs.size ≤ a → h₀.get? a = none := fun a ha => by
    cases e : h₀.get? a with
    | none => rfl
    | some o' => have := F.keep a o' e; rw [fresh a ha] at this; cases this
  have hD₀ : h₀.get? s₂.heap.objs.size = none := fresh₀ _ (Nat.le_refl _)
  have hC₀ : h₀.get? H2.objs.size = none := fresh₀ _ (by rw [hC]; exact Nat.le_succ _)
  have hLlt : L < s₂.heap.objs.size := F.ns.lt
  have hDL : s₂.heap.objs.size ≠ L := Ne.symm (below L hLlt).2
  have hCL : H2.objs.size ≠ L := Ne.symm (below L hLlt).1
  have hND : ∀ p ∈ news, p.1 ≠ s₂.heap.objs.size := fun p hp => (below _ (Heap.lt_size (N p hp).1)).2
  have hNC : ∀ p ∈ news, p.1 ≠ H2.objs.size := fun p hp => (below _ (Heap.lt_size (N p hp).1)).1
  have hwr : ∀ b, b ∈ [z, TO, i1, i2] → L ≠ b ∧ h₀.get? b = none ∧ ∀ p ∈ news, p.1 ≠ b := fun b hb => hz b (by
    rcases List.mem_cons.mp hb with rfl | hb
    · exact List.mem_cons_self
    · exact List.mem_cons_of_mem _ (List.mem_cons_of_mem _ hb))
  have hLw : L ∉ [z, TO, i1, i2] := fun hm => (hwr _ hm).1 rfl
  have hNw : ∀ p ∈ news, p.1 ∉ [z, TO, i1, i2] := fun p hp hm => (hwr _ hm).2.2 p hp rfl
  have hlt5 : ∀ b ∈ [z, TO, i1, i2], b < s₂.heap.objs.size := fun b hb => hfp b (by
    rcases List.mem_cons.mp hb with rfl | hb
    · exact List.mem_cons_self
    · exact List.mem_cons_of_mem _ (List.mem_cons_of_mem _ (List.mem_append_left [l1, l2] hb)))
  have hDw : s₂.heap.objs.size ∉ [z, TO, i1, i2] := fun hm => Nat.lt_irrefl _ (hlt5 _ hm)
  have hCw : H2.objs.size ∉ [z, TO, i1, i2] := fun hm => by have := hlt5 _ hm; rw [hC] at this; exact Nat.lt_irrefl _ (Nat.lt_of_succ_lt this)
  have frW : ∀ {h h' : Heap}, Fr h₀ L h m → (∀ b o, b ∉ [z, TO, i1, i2] → h.get? b = some o → h'.get? b = some o) → Fr h₀ L h' m := fun {h h'} F' hk =>
    ⟨F'.ns.at' fun o e => hk L o hLw e, fun b o e => hk b o (fun hm => by rw [(hwr b hm).2.1] at e; cases e) (F'.keep b o e), F'.above⟩
  have nwW : ∀ {h h' : Heap}, News h₀ L h news → (∀ b o, b ∉ [z, TO, i1, i2] → h.get? b = some o → h'.get? b = some o) → News h₀ L h' news := fun {h h'} N' hk p hp => ⟨hk _ _ (hNw p hp) (N' p hp).1, (N' p hp).2⟩
  have loop : ∀ s₃ : Shared, s₃ = { s₂ with heap := h₁, toks := s₂.toks + ([] : List (Str × Value)).length } →
      codeAny (model prog w) A (.compLoop (.ListComp elt [⟨.Tuple [.Name x px, .Name x₂ px₂] tk0 tp, iter, [], 0⟩] scope pos) 0 (.ref z) (.ref s₂.heap.objs.size) (compEnvC scope cl H2.objs.size env))
        (RR (.ref s₂.heap.objs.size) H2.objs.size) s₃ := by
    rintro s₃ rfl
    refine codeAny_compLoop_pair
      (ZInv h₀ L m s₂ z TI TO i1 i2 l1 l2 s₂.heap.objs.size H2.objs.size xs ys as (List.zipWith g as bs) news) ?_ (as.length + 1)
      ⟨h₁, _, 0, [], _, rfl, Nat.zero_le _, rfl, rfl, hst₁, F.keeps old, hns₁, hacc, fun p hp => ⟨old _ _ (N p hp).1, (N p hp).2⟩, by rw [List.take_zero]; exact .nil⟩
    rintro k s' ⟨h', tk, i, vs, m', rfl, hi, rfl, hvl, hst', F', hn', hD', N', hI'⟩
    by_cases hlt : i < as.length
    · refine W.item i _ _ _ hlt hst' fun T vals h₂ tk₂ hP hT hIT hMid hk₂ => ?_
      obtain ⟨vx, vy, ex, ey, rfl⟩ := hP
      have hTw := W.apart _ _ _ hMid
      refine W.go _ _ _ i T _ _ _ hMid fun h₂' hst₂ hk₂' => ?_
      have hk : ∀ b o, b ∉ [z, TO, i1, i2] → h'.get? b = some o → h₂'.get? b = some o := fun b o hb e => hk₂' b o hb (hk₂ b o hb e)
      have hT₂ : IsTup h₂' T #[vx, vy] := by
        obtain ⟨o, e, r⟩ := hIT
        exact ⟨o, hk₂' T o hTw e, r⟩
      refine assign_Tuple_tuple hh hT₂ rfl rfl fun h₅ he => ?_
      have he' : ∀ b o, h₂'.get? b = some o → h₅.get? b = some o := fun b o e => he b o (Nat.ne_of_lt (Heap.lt_size e)) e
      have hn₂ : h₂'.Ns H2.objs.size m' := hn'.at' fun o e => hk _ o hCw e
      refine assignInOrder_cons (wpAny_assign_Name (wpAny_storeName_local (lookup_relabel_local hx) (hn₂.at' fun o e => he' _ o e) (fun h₆ hn₆ hs₆ => ?_) (comp_kind hkind)))
      refine assignInOrder_cons (wpAny_assign_Name (wpAny_storeName_local (lookup_relabel_local hx₂) hn₆ (fun h₃ hn₃ hs₃ => ?_) (comp_kind hkind)))
      refine assignInOrder_nil ?_
      have old3 : ∀ b o, b ≠ H2.objs.size → h₂'.get? b = some o → h₃.get? b = some o := fun b o hb e => hs₃.extBut b o hb (hs₆.extBut b o hb (he' b o e))
      have hfC : ∀ b ∈ [z, TI, TO, i1, i2, l1, l2], b ≠ H2.objs.size := fun b hb => (below b (hfp b hb)).1
      have hfD : ∀ b ∈ [z, TI, TO, i1, i2, l1, l2], b ≠ s₂.heap.objs.size := fun b hb => (below b (hfp b hb)).2
      have hst₃ : ZSt z TI TO i1 i2 l1 l2 xs.toArray ys.toArray (i + 1) h₃ := W.frame _ _ _ hst₂ fun b hb o e => old3 b o (hfC b hb) e
      obtain ⟨oC, heC, hoC⟩ := ns_obj hn₃
      have F₃ : Fr h₀ L h₃ m := (((frW F' hk).keeps he').change hs₆ hCL hC₀).change hs₃ hCL hC₀
      have N₂ := nwW N' hk
      have hD₃ : h₃.get? s₂.heap.objs.size = some (lst vs) := old3 _ _ hDC (hk _ _ hDw hD')
      obtain ⟨hiA, hiB⟩ : i < as.length ∧ i < bs.length := ⟨hlt, hlen ▸ hlt⟩
      obtain ⟨ta, hta⟩ := hi1.get i as[i] (by simp [hiA])
      obtain ⟨tb, htb⟩ := hi2.get i bs[i] (by simp [hiB])
      have evx : vx = .int as[i] ta := by
        have : xs[i]? = some vx := by simpa using ex
        rw [hta] at this; exact (Option.some.inj this).symm
      have evy : vy = .int bs[i] tb := by
        have : ys[i]? = some vy := by simpa using ey
        rw [htb] at this; exact (Option.some.inj this).symm
      subst evx evy
      have hst₃' := hst₃
      obtain ⟨q1, q2, ⟨qa, qb, q3⟩, ⟨o4, q4, r4⟩, ⟨o5, q5, r5⟩, q6, q7⟩ := hst₃'
      have N₃ : News h₀ L h₃ ((H2.objs.size, oC) :: (s₂.heap.objs.size, lst vs) :: (z, _) :: (TI, _) :: (TO, _) :: (i1, o4) :: (i2, o5) :: news) := fun p hp => by
        rcases List.mem_cons.mp hp with rfl | hp
        · exact ⟨heC, hCL, hC₀⟩
        rcases List.mem_cons.mp hp with rfl | hp
        · exact ⟨hD₃, hDL, hD₀⟩
        rcases List.mem_cons.mp hp with rfl | hp
        · exact ⟨q1, Ne.symm (hz z (List.mem_of_getElem? (i := 0) rfl)).1, (hz z (List.mem_of_getElem? (i := 0) rfl)).2.1⟩
        rcases List.mem_cons.mp hp with rfl | hp
        · exact ⟨q2, Ne.symm (hz TI (List.mem_of_getElem? (i := 1) rfl)).1, (hz TI (List.mem_of_getElem? (i := 1) rfl)).2.1⟩
        rcases List.mem_cons.mp hp with rfl | hp
        · exact ⟨q3, Ne.symm (hz TO (List.mem_of_getElem? (i := 2) rfl)).1, (hz TO (List.mem_of_getElem? (i := 2) rfl)).2.1⟩
        rcases List.mem_cons.mp hp with rfl | hp
        · exact ⟨q4, Ne.symm (hz i1 (List.mem_of_getElem? (i := 3) rfl)).1, (hz i1 (List.mem_of_getElem? (i := 3) rfl)).2.1⟩
        rcases List.mem_cons.mp hp with rfl | hp
        · exact ⟨q5, Ne.symm (hz i2 (List.mem_of_getElem? (i := 4) rfl)).1, (hz i2 (List.mem_of_getElem? (i := 4) rfl)).2.1⟩
        · have y := N₂ p hp
          exact ⟨old3 _ _ (hNC p hp) y.1, y.2⟩
      refine wpAny_mono (turn as[i] bs[i] ta tb H2.objs.size oC s₂.heap.objs.size _ vs h₃ _ _ _ (List.getElem_mem _) (List.getElem_mem _) hoC ((if_neg hxx).trans (if_pos rfl)) (if_pos rfl) F₃ (fun p hp => List.mem_append_right [_, _, _, _, _] hp) N₃) (fun y s₄ h₄ => ?_) fun _ _ e => e
      obtain ⟨h₄, tk₄, t₄, rfl, rfl, F₄, N₄⟩ := h₄
      have zN : ∀ b o, (b, o) ∈ ((H2.objs.size, oC) :: (s₂.heap.objs.size, lst vs) :: (z, _) :: (TI, _) :: (TO, _) :: (i1, o4) :: (i2, o5) :: news : Led) → h₄.get? b = some o := fun b o hm => (N₄ _ hm).1
      have zC := zN H2.objs.size oC (List.mem_of_getElem? (i := 0) rfl)
      have zD := zN s₂.heap.objs.size (lst vs) (List.mem_of_getElem? (i := 1) rfl)
      have N₄' : News h₀ L h₄ news := fun p hp => N₄ p (List.mem_append_right [_, _, _, _, _, _, _] hp)
      have l6 : h₄.IsList l1 xs.toArray ∧ h₄.IsList l2 ys.toArray := hlists h₄ F₄.keep N₄'
      have hst₄ : ZSt z TI TO i1 i2 l1 l2 xs.toArray ys.toArray (i + 1) h₄ :=
        ⟨zN _ _ (List.mem_of_getElem? (i := 2) rfl), zN _ _ (List.mem_of_getElem? (i := 3) rfl), ⟨qa, qb, zN _ _ (List.mem_of_getElem? (i := 4) rfl)⟩, ⟨o4, zN _ _ (List.mem_of_getElem? (i := 5) rfl), r4⟩, ⟨o5, zN _ _ (List.mem_of_getElem? (i := 6) rfl), r5⟩, l6.1, l6.2⟩
      refine append_at (hsz := by show vs.toArray.size ≤ sizeLine; rw [List.size_toArray, hvl]; exact Nat.le_trans hi hsz) zD fun h₅ hs₅ hD₅ => ?_
      refine ⟨as.length + 1 - (i + 1), by omega, h₅, tk₄, i + 1, vs ++ [.int (g as[i] bs[i]) t₄], _, rfl, hlt, rfl, by rw [List.length_append, List.length_singleton, hvl], W.frame _ _ _ hst₄ fun b hb o e => hs₅.extBut b o (hfD b hb) e, F₄.change hs₅ hDL hD₀,
        (hoC.ns zC).sameBut hs₅ (Ne.symm hDC), hD₅.trans (congrArg some (lst_snoc vs _)), fun p hp => ⟨hs₅.extBut _ _ (hND p hp) (N₄' p hp).1, (N₄' p hp).2⟩, ?_⟩
      have hzi : (List.zipWith g as bs)[i]? = some (g as[i] bs[i]) := by
        rw [List.getElem?_zipWith]; simp [hiA, hiB]
      rw [List.take_add_one, hzi]
      exact IntsAre.append hI' (.cons _ _ .nil)
    · obtain rfl : i = as.length := Nat.le_antisymm hi (Nat.not_lt.mp hlt)
      refine W.done _ _ _ hst' fun h₂ tk₂ hk₂ => ?_
      have hzl : (List.zipWith g as bs).length = as.length := by rw [List.length_zipWith, hlen, Nat.min_self]
      rw [List.take_of_length_le (Nat.le_of_eq hzl)] at hI'
      refine hRR _ _ h₂ tk₂ _ vs (frW F' hk₂) (fun p hp => ?_) hND (hn'.at' fun o e => hk₂ _ o hCw e) hC₀ hD₀ hCL hDL (Ne.symm hDC) hNC hI'
      rcases List.mem_cons.mp hp with rfl | hp
      · exact ⟨hk₂ _ _ hDw hD', hDL, hD₀⟩
      · exact nwW N' hk₂ p hp
  exact codeAny_compStart_list (loop _ rfl) (W.self 0 _ _ _ hst₁ (loop _ rfl))

def ZFinA (h₀ : Heap) (L : Addr) (m : Str → Option Value) (s : Shared) (y : Str) (Q : Flow → Shared → Prop) (news : Led) (rs : List Int) : Prop :=
  ∀ D h tk vs, Fr h₀ L h (fun x => if x = y then some (.ref D) else m x) → News h₀ L h ((D, lst vs) :: news) → (∀ p ∈ news, p.1 ≠ D) → IntsAre vs rs → Q .next { s with heap := h, toks := tk }

/-- what the iterable of the comprehension must hand over -/
inductive ZSrc (prog : Program) (w : World) (A : Around) (h₀ : Heap) (L : Addr) (m : Str → Option Value) (env : Env) (elt : Expr) (x x₂ : Str) (scope : Scope) (cl : List (Str × Addr)) (Fin : Shared → Led → List Int → Prop) (xv : Value) (s₁ : Shared) : Prop
  | mk (z TI TO i1 i2 l1 l2 xs ys as bs g news) (a0 : xv = .ref z) (a1 : A.handled = none) (a2 : Fr h₀ L s₁.heap m) (a3 : News h₀ L s₁.heap news) (a4 : ZipApart z TI TO i1 i2 l1 l2) (a5 : ZSt z TI TO i1 i2 l1 l2 (List.toArray xs) (List.toArray ys) 0 s₁.heap) (a6 : IntsAre xs as) (a7 : IntsAre ys bs) (a8 : as.length = bs.length) (a9 : as.length ≤ sizeLine) (a10 : (∀ b ∈ [z, TI, TO, i1, i2], L ≠ b ∧ h₀.get? b = none ∧ ∀ p ∈ news, p.1 ≠ b)) (a11 : (∀ h, (∀ b o, h₀.get? b = some o → h.get? b = some o) → News h₀ L h news → h.IsList l1 (List.toArray xs) ∧ h.IsList l2 (List.toArray ys))) (a12 : (∀ a b ta tb C oC D₁ m₂ vs h tk zn (E' : Value → Shared → Prop), a ∈ as → b ∈ bs → NsObj oC m₂ → m₂ x = some (.int a ta) → m₂ x₂ = some (.int b tb) → Fr h₀ L h m → Sub news zn → News h₀ L h ((C, oC) :: (D₁, lst vs) :: zn) →
      wpAny (model prog w) A (eval elt (compEnvC scope cl C env)) (ZEnd h₀ L m { s₁ with heap := h, toks := tk } ((C, oC) :: (D₁, lst vs) :: zn) (g a b)) E' { s₁ with heap := h, toks := tk })) (a13 : Fin s₁ news (List.zipWith g as bs))

/-- zip of two lists of the ledger -/
theorem zsrc_zip {elt : Expr} {x x₂ : Str} {scope : Scope} {cl : List (Str × Addr)} {Fin : Shared → Led → List Int → Prop} {l1 l2 : Addr} {xs ys : List Value} {as bs : List Int} (g : Int → Int → Int) {news : Led}
    (hh : A.handled = none) (F : Fr h₀ L s.heap m) (N : News h₀ L s.heap news) {k1 k2 : Nat} (m1 : (l1, W.listOf (List.toArray xs) k1) ∈ news) (m2 : (l2, W.listOf (List.toArray ys) k2) ∈ news) (hi1 : IntsAre xs as) (hi2 : IntsAre ys bs) (hlen : as.length = bs.length) (hsz : as.length ≤ sizeLine)
    (turn : ∀ a b ta tb C oC D₁ m₂ vs h tk zn (E' : Value → Shared → Prop), a ∈ as → b ∈ bs → NsObj oC m₂ → m₂ x = some (.int a ta) → m₂ x₂ = some (.int b tb) → Fr h₀ L h m → Sub news zn → News h₀ L h ((C, oC) :: (D₁, lst vs) :: zn) →
      wpAny (model prog w) A (eval elt (compEnvC scope cl C env)) (ZEnd h₀ L m { s with heap := h, toks := tk } ((C, oC) :: (D₁, lst vs) :: zn) (g a b)) E' { s with heap := h, toks := tk })
    (fin : ∀ h', Fin { s with heap := h' } news (List.zipWith g as bs)) :
    wpAny (model prog w) A (call (.type "zip") [.ref l1, .ref l2]) (ZSrc prog w A h₀ L m env elt x x₂ scope cl Fin) E s := by
  have hls1 : s.heap.IsList l1 xs.toArray := News.isList N m1
  have hls2 : s.heap.IsList l2 ys.toArray := News.isList N m2
  obtain ⟨ol1, hol1, _⟩ := id hls1
  obtain ⟨ol2, hol2, _⟩ := id hls2
  have a1 := Heap.lt_size hol1
  have a2 := Heap.lt_size hol2
  have hLs : L < s.heap.objs.size := F.ns.lt
  refine call_zip_2 hls1 hls2 fun h' hz hTI hTO hit1 hit2 hsz' hk => ?_
  have F' : Fr h₀ L h' m := ⟨F.ns.keeps hk, fun b o e => hk b o (F.keep b o e), F.above⟩
  have N' : News h₀ L h' news := fun p hp => ⟨hk _ _ (N p hp).1, (N p hp).2⟩
  refine ⟨s.heap.objs.size + 4, s.heap.objs.size + 2, s.heap.objs.size + 3, s.heap.objs.size, s.heap.objs.size + 1, l1, l2, xs, ys, as, bs, g, news, rfl, hh, F', N', zipApart_new a1 a2, ⟨hz, hTI, ⟨_, _, hTO⟩, hit1, hit2, hls1.at fun o e => hk l1 o e, hls2.at fun o e => hk l2 o e⟩, hi1, hi2, hlen, hsz, ?_, ?_, turn, fin h'⟩
  · have up : ∀ k, L ≠ s.heap.objs.size + k ∧ h₀.get? (s.heap.objs.size + k) = none ∧ ∀ p ∈ news, p.1 ≠ s.heap.objs.size + k := fun k =>
      ⟨fun e => Nat.ne_of_lt (Nat.lt_of_lt_of_le hLs (Nat.le_add_right _ k)) e, Heap.get?_none_of_le (Nat.le_trans F.above (Nat.le_trans (Nat.le_of_lt hLs) (Nat.le_add_right _ k))),
        fun p hp e => Nat.ne_of_lt (Nat.lt_of_lt_of_le (Heap.lt_size (N p hp).1) (Nat.le_add_right _ k)) e⟩
    intro b hb
    simp only [List.mem_cons, List.not_mem_nil, or_false] at hb
    rcases hb with rfl | rfl | rfl | rfl | rfl
    · exact up 4
    · exact up 2
    · exact up 3
    · exact up 0
    · exact up 1
  · exact fun h _ N₁ => ⟨News.isList N₁ m1, News.isList N₁ m2⟩

theorem ZEnd.intro {s₁ : Shared} {led nw : Led} {r r' : Int} {t : Tok} {h' : Heap} {tk' : Nat} (e : r' = r) (F : Fr h₀ L h' m) (N : News h₀ L h' nw) (S : Sub led nw) : ZEnd h₀ L m s₁ led r (.int r' t) { s₁ with heap := h', toks := tk' } :=
  ⟨h', tk', t, rfl, by rw [e], F, fun p hp => N p (S p hp)⟩
theorem Assign_ListComp_Z {elt iter : Expr} {x x₂ y : Str} {px px₂ tp py : Pos} {tk0} {scope : Scope} {cl : List (Str × Addr)} {pos spos : Pos} {Q : Flow → Shared → Prop} (_F₀ : Fr h₀ L s.heap m) (hLe : env.locals = L)
    (hsw : swapsWith (.ListComp elt [⟨.Tuple [.Name x px, .Name x₂ px₂] tk0 tp, iter, [], 0⟩] scope pos) (some (.Name y py)) spos.line env = pure true)
    (hclos : closureFor scope env = pure cl) (hcell : ∀ z ∈ scope.names, z.2 ≠ .cell) (hkind : scope.kind = .function)
    (hnames : ∀ z ∈ scope.names, z.2 = .local → scope.names.lookup z.1 = some .local) (hx : scope.names.lookup x = some .local) (hx₂ : scope.names.lookup x₂ = some .local) (hxx : x ≠ x₂)
    (hy : env.kindOf y = some .local) (hp : (env.scope.kind == .class || (env.scope.kind == .module && env.locals != env.globals)) = false)
    (h : wpAny (model prog w) A (eval iter env) (ZSrc prog w A h₀ L m env elt x x₂ scope cl (fun s₂ => ZFinA h₀ L m s₂ y Q)) E s)
    (hs : ∀ x, foldedSetIterable iter env x = pure x := by intro _; rfl) :
    wpAny (model prog w) A (exec (.Assign [.Name y py] (.ListComp elt [⟨.Tuple [.Name x px, .Name x₂ px₂] tk0 tp, iter, [], 0⟩] scope pos) spos) env) Q E s := by
  subst hLe
  rw [exec_Assign_Name_used _ _ _ _ hsw]
  refine wpAny_bind (wpAny_standAt (wpAny_bind ?_))
  show wpAny _ A (do let _ ← comprehension (.ListComp elt [⟨.Tuple [.Name x px, .Name x₂ px₂] tk0 tp, iter, [], 0⟩] scope pos) scope env _ (newList []) false (eval iter env) (some (assign (.Name y py) env))) _ _ s
  refine wpAny_bind (wpAny_mono (wpAny_comprehension_free (use := some (assign (.Name y py) env)) (Q := fun _ s' => Q .next s') rfl hs hclos hkind hnames
    (wpAny_mono h (fun xv s₁ h₁ => ?_) fun _ _ e => e)) (fun _ s' hq => wpAny_pure (wpAny_pure hq)) fun _ _ e => e)
  obtain ⟨z, TI, TO, i1, i2, l1, l2, xs, ys, as, bs, g, news, rfl, hh, F, N, D, hst, hi1, hi2, hlen, hsz, hz, hlists, turn, fin⟩ := h₁
  have W := WalksT.zip2 (prog := prog) (w := w) hh z TI TO i1 i2 l1 l2 D xs.toArray ys.toArray
  refine W.self 0 _ _ _ hst ?_
  refine blockZ g hh D hst hi1 hi2 hlen hsz hcell hkind hx hx₂ hxx F N hz hlists turn ?_
  intro D₁ C h' tk m' vs F' N' o1 hn hC₀ hD₀ hCL hDL hCD offC hI
  show wpAny _ A (assign (.Name y py) env (.ref D₁)) _ _ _
  refine wpAny_assign_Name (wpAny_storeName_local hy F'.ns (fun h₂ hn₂ hs₂ => ?_) hp)
  have hL₀ : h₀.get? env.locals = none := Heap.get?_none_of_le F'.above
  have F₂ : Fr h₀ env.locals h₂ (fun z => if z = y then some (.ref D₁) else m z) := ⟨hn₂, fun b o e => hs₂.extBut b o (fun q => by rw [q, hL₀] at e; cases e) (F'.keep b o e), F'.above⟩
  refine ⟨m', hn.sameBut hs₂ hCL, fun h'' hs'' => fin D₁ h'' _ vs (F₂.change hs'' hCL hC₀) (fun p hp => ?_) o1 hI⟩
  have z : h₂.get? p.1 = some p.2 := hs₂.extBut _ _ (N' p hp).2.1 (N' p hp).1
  refine ⟨hs''.extBut _ _ ?_ z, (N' p hp).2⟩
  rcases List.mem_cons.mp hp with rfl | hp
  · exact Ne.symm hCD
  · exact offC p hp
end
end Mine05
end
section
namespace Mine05
/-- a contract of a def that reads the script -/
def SpecS (w : World) (mean : ExcName → Option Value) (mg mb : Str → Option Value) (sl : Addr) (svs : List Value) (f : Addr) (args : List Value) (need : Nat) (news : Led) (Out : Value → Led → Prop) : Prop :=
  ∀ (dp un : Nat) (gd : Option (List Code)) (cn : Str) (cs : Scope) (a : Addr) (ccd : Value) (cl : List (Str × Addr)) (outer : List Env) (A₀ : Around) (base h₀ : Heap) (L : Addr) (m : Str → Option Value) (s : Shared) (Q E : Value → Shared → Prop),
    Below A₀ base outer h₀ → base.IsList sl svs.toArray → Fr h₀ L s.heap m → (hd05.heap_39 w.params).In h₀ → News h₀ L s.heap news → Top topProg (looseW Mine05.view [] ++ (recsOf Mine05.view).map (·.name) ++ (litsOf Mine05.view).map (·.1) ++ (clssOf Mine05.view (looseW Mine05.view [])).map (·.name)) mean mg mb h₀ → cs.kind = .function →
    dp + need < recursionLimit → un + 8 * need < cLine →
    (∀ r nw h' tk', Fr h₀ L h' m → News h₀ L h' nw → Sub news nw → Out r nw → Q r { s with heap := h', toks := tk' }) →
    codeAny (model PySem.Challenge.rw_xy0002_05.row.toRowW.prog w) (ktrTop dp un gd cn cs L a ccd cl outer) (.call (.ref f) ⟨args, []⟩) (fun r s' => match r with | .ok (.ret v) => Q v s' | .ok _ => False | .error e => E e s') s
theorem SpecS.use {w : World} {mean : ExcName → Option Value} {mg mb : Str → Option Value} {sl : Addr} {svs : List Value} {f : Addr} {args : List Value} {need : Nat} {news : Led} {Out : Value → Led → Prop}
    (h : SpecS w mean mg mb sl svs f args need news Out)
    {dp un : Nat} {gd : Option (List Code)} {cn : Str} {cs : Scope} {a : Addr} {ccd : Value} {cl : List (Str × Addr)} {outer : List Env} {A₀ : Around} {base h₀ : Heap} {L : Addr} {m : Str → Option Value} {s : Shared} {Q E : Value → Shared → Prop}
    (B : Below A₀ base outer h₀) (hS : base.IsList sl svs.toArray) (F : Fr h₀ L s.heap m) (X : (hd05.heap_39 w.params).In h₀) (N : News h₀ L s.heap news) (T : Top topProg (looseW Mine05.view [] ++ (recsOf Mine05.view).map (·.name) ++ (litsOf Mine05.view).map (·.1) ++ (clssOf Mine05.view (looseW Mine05.view [])).map (·.name)) mean mg mb h₀) (hk : cs.kind = .function)
    (hd : dp + need < recursionLimit) (hu : un + 8 * need < cLine)
    (ret : ∀ r nw h' tk', Fr h₀ L h' m → News h₀ L h' nw → Sub news nw → Out r nw → Q r { s with heap := h', toks := tk' }) :
    codeAny (model PySem.Challenge.rw_xy0002_05.row.toRowW.prog w) (ktrTop dp un gd cn cs L a ccd cl outer) (.call (.ref f) ⟨args, []⟩) (fun r s' => match r with | .ok (.ret v) => Q v s' | .ok _ => False | .error e => E e s') s :=
  h dp un gd cn cs a ccd cl outer A₀ base h₀ L m s Q E B hS F X N T hk hd hu ret
inductive ListNew (news nw : Led) (v : Value) (ns : List Int) : Prop
  | mk (l vs k) (a0 : v = .ref l) (a1 : (l, W.listOf (List.toArray vs) k) ∈ nw) (a2 : IntsAre vs ns) (a3 : ∀ p ∈ news, p.1 ≠ l)
theorem ListNew.elim {news nw : Led} {v : Value} {ns : List Int} {C : Prop} (h : ListNew news nw v ns) (k : ∀ l vs k, v = .ref l → (l, W.listOf (List.toArray vs) k) ∈ nw → IntsAre vs ns → (∀ p ∈ news, p.1 ≠ l) → C) : C :=
  let ⟨l, vs, kk, e, m, i, n⟩ := h; k l vs kk e m i n
theorem bits_iff {x : Int} {B : Nat} : Builtin.Int.intBits x ≤ B ↔ x.natAbs < 2 ^ B := by
  unfold Builtin.Int.intBits
  by_cases h : x = 0
  · subst h; simp; exact Nat.two_pow_pos B
  · have hn : x.natAbs ≠ 0 := by omega
    simp only [beq_iff_eq, h, if_false]
    rw [← Nat.log2_lt hn]
    omega
theorem bits_sub {x y : Int} {a b c : Nat} (hx : Builtin.Int.intBits x ≤ a) (hy : Builtin.Int.intBits y ≤ b) (ha : a + 1 ≤ c) (hb : b + 1 ≤ c) : Builtin.Int.intBits (x - y) ≤ c := by
  rw [bits_iff] at *
  have h1 : 2 ^ (a + 1) ≤ 2 ^ c := Nat.pow_le_pow_right (by decide) ha
  have h2 : 2 ^ (b + 1) ≤ 2 ^ c := Nat.pow_le_pow_right (by decide) hb
  rw [Nat.pow_succ] at h1 h2
  generalize (2 : Nat) ^ a = A at *
  generalize (2 : Nat) ^ b = B at *
  generalize (2 : Nat) ^ c = C at *
  omega
theorem bits_getD {ns : List Int} {B : Nat} (h : ∀ x ∈ ns, Builtin.Int.intBits x ≤ B) (k : Nat) : Builtin.Int.intBits (ns.getD k 0) ≤ B := by
  rw [List.getD_eq_getElem?_getD]
  cases e : ns[k]? with
  | none => exact Nat.zero_le _
  | some x => exact h x (List.mem_of_getElem? e)
theorem bits_small {x : Int} (h1 : -(2 ^ 64) < x) (h2 : x < 2 ^ 64) : Builtin.Int.intBits x ≤ 2 ^ 20 := Nat.le_trans (intBits_le_64 h1 h2) (by decide)
theorem newsDown {h₀ h : Heap} {L : Addr} {a b : Led} (N : News h₀ L h b) (S : Sub a b) : News h₀ L h a := fun p hp => N p (S p hp)
end Mine05
end
section
namespace Mine05
def lawStmt? (p : Program) (i : Nat) : Option Stmt := match p.main.body.getLast? with
  | some (.FunctionDef _ _ body _ _ _ _ _ _ _) => body[i]?
  | _ => none
def lawBody? (p : Program) : Option (List Stmt) := match p.main.body.getLast? with
  | some (.FunctionDef _ _ body _ _ _ _ _ _ _) => some body
  | _ => none
def lawScope? (p : Program) : Option Scope := match p.main.body.getLast? with
  | some (.FunctionDef _ _ _ _ _ _ scope _ _ _) => some scope
  | _ => none
end Mine05
end
section
namespace Mine05
theorem off1_mem {D : Addr} : ∀ {l : Led}, LCg.Off1 D l → ∀ p ∈ l, p.1 ≠ D
  | [], _, _, h => nomatch h
  | _ :: _, x, p, h => by
    rcases List.mem_cons.mp h with rfl | h
    · exact x.1
    · exact off1_mem x.2 p h
section
variable {prog : Program} {w : World} {A : Around} {h₀ : Heap} {L : Addr} {m : Str → Option Value} {env : Env} {elt : Expr} {x : Str} {scope : Scope} {cl : List (Str × Addr)} {s : Shared} {S : List (Addr × Obj) → Prop} {P : Nat → Value → Prop} {Fin : List Value → List (Addr × Obj) → Prop}
end
end Mine05
end
section
namespace Mine05
section
variable {g h : Heap} {L c P : Addr} {ps : Array Value} {m : Str → Option Value} {news : Led}
def offP (P : Addr) (nw : Led) : Led := nw.filter fun p => decide (p.1 ≠ P)
theorem mem_offP {nw : Led} {p : Addr × Obj} (h : p ∈ nw) (hne : p.1 ≠ P) : p ∈ offP P nw := List.mem_filter.mpr ⟨h, decide_eq_true hne⟩
theorem of_offP {nw : Led} {p : Addr × Obj} (h : p ∈ offP P nw) : p ∈ nw ∧ p.1 ≠ P := ⟨(List.mem_filter.mp h).1, of_decide_eq_true (List.mem_filter.mp h).2⟩
theorem C_of {h₀ : Heap} (F : Fr h₀ L g m) (C : CodeHd h₀ c P) : CodeHd g c P := C.keeps F.keep
theorem ob_ne {a b : Addr} {o o' : Obj} (e : h.get? b = some o) (e' : h.get? a = some o') (hne : o' ≠ o) : a ≠ b := by
  rintro rfl
  rw [e] at e'
  exact hne (Option.some.inj e').symm
end
end Mine05
end
section
namespace Mine05
theorem powMod_go (b m : Nat) (hm : 0 < m) (e : Nat) : ∀ (k p : Nat), p = b ^ (e >>> k) % m → ((List.range k).reverse).foldl (fun p i => if e.testBit i then p * p % m * b % m else p * p % m) p = b ^ e % m
  | 0, p, h => by simpa using h
  | k + 1, p, h => by
    rw [List.range_succ, List.reverse_append, List.reverse_singleton, List.singleton_append, List.foldl_cons]
    refine powMod_go b m hm e k _ ?_
    have e1 : e >>> k = 2 * (e >>> (k + 1)) + (if e.testBit k then 1 else 0) := by
      have h1 : e >>> (k + 1) = (e >>> k) / 2 := by rw [Nat.shiftRight_succ]
      have h2 : e.testBit k = decide ((e >>> k) % 2 = 1) := by
        rw [Nat.testBit_eq_decide_div_mod_eq, Nat.shiftRight_eq_div_pow]
      rw [h1, h2]
      by_cases h3 : (e >>> k) % 2 = 1
      · simp only [h3, decide_true, if_true]; omega
      · simp only [h3, decide_false]; simp; omega
    rw [e1, h]
    cases e.testBit k
    · simp only [Bool.false_eq_true, if_false, Nat.add_zero, Nat.two_mul, Nat.pow_add]
      rw [← Nat.mul_mod]
    · simp only [if_true, Nat.pow_add, Nat.two_mul, Nat.pow_one]
      generalize b ^ (e >>> (k + 1)) = X
      rw [← Nat.mul_mod X X m, Nat.mul_mod (X * X % m) b m, Nat.mod_mod, ← Nat.mul_mod]
theorem powMod_eq (b e m : Nat) (hm : 0 < m) : Builtin.powMod b e m = b ^ e % m := by
  unfold Builtin.powMod
  refine powMod_go b m hm e _ _ ?_
  have : e >>> Builtin.Int.intBits e = 0 := by
    rw [Nat.shiftRight_eq_div_pow]
    refine Nat.div_eq_of_lt ?_
    unfold Builtin.Int.intBits
    by_cases h : e = 0
    · subst h; simp
    · have h' : ¬ ((e : Int) = 0) := by omega
      simp only [beq_iff_eq, h', if_false, Int.natAbs_natCast]
      exact Nat.lt_log2_self
  rw [this, Nat.pow_zero]
theorem emod_powI (a c : Int) : ∀ n : Nat, (a % c) ^ n % c = a ^ n % c
  | 0 => by rw [Int.pow_zero, Int.pow_zero]
  | n + 1 => by rw [Int.pow_succ, Int.pow_succ, Int.mul_emod, emod_powI a c n, Int.emod_emod_of_dvd _ (Int.dvd_refl c), ← Int.mul_emod]
theorem gives_pow3 (a : Int) (t : Tok) (b : Int) (u : Tok) (c : Int) (v : Tok) (hb : 0 ≤ b) (hc : 2 ≤ c) :
    Gives (Builtin.«int.__pow__» ⟨[.int a t, .int b u, .int c v], []⟩) (.int (a ^ b.toNat % c)) := by
  have e : ((Builtin.powMod (a % ((c.natAbs : Nat) : Int)).toNat b.natAbs c.natAbs : Nat) : Int) = a ^ b.toNat % c := by
    have hn : ((c.natAbs : Nat) : Int) = c := Int.natAbs_of_nonneg (by omega)
    rw [powMod_eq _ _ _ (by omega), hn, show b.natAbs = b.toNat by omega, Int.natCast_emod, Int.natCast_pow, hn, Int.toNat_of_nonneg (Int.emod_nonneg _ (by omega))]
    exact emod_powI a c _
  have h0 : ¬ ((c == 0) = true) := by simp; omega
  have h1 : ¬ ((c.natAbs == 1) = true) := by simp; omega
  have h2 : ¬ (b < 0) := by omega
  have h3 : decide (c < 0) = false := decide_eq_false (by omega)
  rw [← e]
  exact .of_wp fun M A E s Q h => by
    obtain ⟨hp, g, d, tk, os⟩ := s
    wp_walk
    refine ⟨_, rfl, ?_⟩
    rw [h3, Bool.false_and, if_neg (by decide)]
    exact h
theorem entry_pow : entryFor table "pow" = some Builtin.«pow» := entryFor_of_fast (by kernel_rfl)
theorem args_pow3 (a b c : Value) : argsOk "pow" ⟨[a, b, c], []⟩ := by unfold argsOk; kernel_rfl
section
variable {prog : Program} {w : World} {A : Around} {E : Value → Shared → Prop} {s : Shared}
theorem call_pow3 {a b c : Int} {t u v : Tok} {Q : Value → Shared → Prop} (hb : 0 ≤ b) (hc : 2 ≤ c) (h : Q (.int (a ^ b.toNat % c) s.toks) { s with toks := s.toks + 1 }) :
    wpAny (model prog w) A (call (.builtin "pow") [.int a t, .int b u, .int c v]) Q E s := by
  refine call_function_tree (by decide +kernel) (by decide +kernel) entry_pow (args_pow3 _ _ _) ?_
  unfold Builtin.«pow»
  refine wpAny_bind (wpAny_of_eq (show Builtin.Builtins.bindParams "pow" ["base", "exp", "mod"] 2 ⟨[.int a t, .int b u, .int c v], []⟩ = pure [some (.int a t), some (.int b u), some (.int c v)] from rfl) ?_)
  simp only [Option.getD_some]
  refine wpAny_bind (wpAny_rule ?_)
  refine wpAny_bind (wpAny_typeOf (typeIs_int _ _ _) ?_)
  refine wpAny_bind (wpAny_of_eq F.slot_int_pow.lookup ?_)
  refine wpAny_bind (wpAny_callSpecial?_slot (name := Str.ofString "__pow__") (typeIs_int _ _ _) F.slot_int_pow (call_gives F.slot_int_pow (typeIs_int _ _ _) F.entry_int_pow (F.args_int_pow_3 _ _ _) (gives_pow3 a t b u c v hb hc) ?_))
  exact wpAny_pure h
end
end Mine05
end
section
namespace Mine05
/-- a contract of a def that makes a generator: the table of the def's code grows, the generators' states are bare -/
def SpecT (w : World) (mean : ExcName → Option Value) (mg mb : Str → Option Value) (f : Addr) (args : List Value) (need : Nat) (c P : Addr) (news : Led) (Out : Value → Led → Prop) : Prop :=
  ∀ (dp un : Nat) (gd : Option (List Code)) (cn : Str) (cs : Scope) (a : Addr) (ccd : Value) (cl : List (Str × Addr)) (outer : List Env) (A₀ : Around) (base h₀ : Heap) (L : Addr) (m : Str → Option Value) (s : Shared) (ps : Array Value) (Q E : Value → Shared → Prop),
    Below A₀ base outer h₀ → Fr h₀ L s.heap m → (hd05.heap_39 w.params).In h₀ → News h₀ L s.heap news → (P, tabObj ps) ∈ news → TriplesOk ps.toList → CodeHd h₀ c P → AllBare s.gens → Top topProg (looseW Mine05.view [] ++ (recsOf Mine05.view).map (·.name) ++ (litsOf Mine05.view).map (·.1) ++ (clssOf Mine05.view (looseW Mine05.view [])).map (·.name)) mean mg mb h₀ → cs.kind = .function →
    dp + need < recursionLimit → un + 8 * need < cLine →
    (∀ r ps' nw s', Fr h₀ L s'.heap m → News h₀ L s'.heap nw → (∀ p ∈ news, p.1 ≠ P → p ∈ nw) → (P, tabObj ps') ∈ nw → TriplesOk ps'.toList → AllBare s'.gens → s'.os = s.os → Out r nw → Q r s') →
    codeAny (model PySem.Challenge.rw_xy0002_05.row.toRowW.prog w) (ktrTop dp un gd cn cs L a ccd cl outer) (.call (.ref f) ⟨args, []⟩) (fun r s' => match r with | .ok (.ret v) => Q v s' | .ok _ => False | .error e => E e s') s
theorem SpecT.use {w : World} {mean : ExcName → Option Value} {mg mb : Str → Option Value} {f : Addr} {args : List Value} {need : Nat} {c P : Addr} {news : Led} {Out : Value → Led → Prop}
    (h : SpecT w mean mg mb f args need c P news Out)
    {dp un : Nat} {gd : Option (List Code)} {cn : Str} {cs : Scope} {a : Addr} {ccd : Value} {cl : List (Str × Addr)} {outer : List Env} {A₀ : Around} {base h₀ : Heap} {L : Addr} {m : Str → Option Value} {s : Shared} {ps : Array Value} {Q E : Value → Shared → Prop}
    (B : Below A₀ base outer h₀) (F : Fr h₀ L s.heap m) (X : (hd05.heap_39 w.params).In h₀) (N : News h₀ L s.heap news) (hP : (P, tabObj ps) ∈ news) (ht : TriplesOk ps.toList) (hC : CodeHd h₀ c P) (hG : AllBare s.gens) (T : Top topProg (looseW Mine05.view [] ++ (recsOf Mine05.view).map (·.name) ++ (litsOf Mine05.view).map (·.1) ++ (clssOf Mine05.view (looseW Mine05.view [])).map (·.name)) mean mg mb h₀) (hk : cs.kind = .function)
    (hd : dp + need < recursionLimit) (hu : un + 8 * need < cLine)
    (ret : ∀ r ps' nw s', Fr h₀ L s'.heap m → News h₀ L s'.heap nw → (∀ p ∈ news, p.1 ≠ P → p ∈ nw) → (P, tabObj ps') ∈ nw → TriplesOk ps'.toList → AllBare s'.gens → s'.os = s.os → Out r nw → Q r s') :
    codeAny (model PySem.Challenge.rw_xy0002_05.row.toRowW.prog w) (ktrTop dp un gd cn cs L a ccd cl outer) (.call (.ref f) ⟨args, []⟩) (fun r s' => match r with | .ok (.ret v) => Q v s' | .ok _ => False | .error e => E e s') s :=
  h dp un gd cn cs a ccd cl outer A₀ base h₀ L m s ps Q E B F X N hP ht hC hG T hk hd hu ret
theorem off_memT {h₀ h : Heap} {L P a : Addr} {o : Obj} {ps : Array Value} {nw : Led} (N : News h₀ L h nw) (hP : (P, tabObj ps) ∈ nw) (hm : (a, o) ∈ nw) (hne : o ≠ tabObj ps) : (a, o) ∈ offP P nw :=
  mem_offP hm (ob_ne (N _ hP).1 (N _ hm).1 hne)
theorem cell_neT {o : Obj} {v : Option Value} {ps : Array Value} (hd : o.data = .cell v) : o ≠ tabObj ps := by
  rintro rfl
  cases hd
theorem list_neT {vs : Array Value} {k : Nat} {ps : Array Value} : W.listOf vs k ≠ tabObj ps := by rintro ⟨⟩
theorem lt_off {news : Led} {L c : Addr} (h : ∀ p ∈ news, p.1 < L) (hc : @LE.le Nat _ L c) : ∀ p ∈ news, p.1 ≠ c := fun p hp => Nat.ne_of_lt (Nat.lt_of_lt_of_le (h p hp) hc)
theorem keepT {h₀ h : Heap} {L P a : Addr} {o : Obj} {ps : Array Value} {n0 nw : Led} (N : News h₀ L h n0) (hP : (P, tabObj ps) ∈ n0) (hs : ∀ p ∈ n0, p.1 ≠ P → p ∈ nw) (hm : (a, o) ∈ n0) (hne : o ≠ tabObj ps) : (a, o) ∈ nw :=
  hs _ hm (ob_ne (N _ hP).1 (N _ hm).1 hne)
theorem newsTail3 {h₀ h : Heap} {L : Addr} {a b c : Addr × Obj} {nw : Led} (N : News h₀ L h (a :: b :: c :: nw)) : News h₀ L h nw := fun p hp => N p (List.mem_cons_of_mem _ (List.mem_cons_of_mem _ (List.mem_cons_of_mem _ hp)))
theorem mem3 {p a b c : Addr × Obj} {nw : Led} (h : p ∈ nw) : p ∈ a :: b :: c :: nw := List.mem_cons_of_mem _ (List.mem_cons_of_mem _ (List.mem_cons_of_mem _ h))
end Mine05
end
section
namespace Mine05
section
variable {prog : Program} {w : World} {A : Around} {E : Value → Shared → Prop} {s : Shared} {g : Heap} {L c P : Addr} {m mg : Str → Option Value} {bm : Addr} {ob : Obj} {env : Env} {elt : Expr} {x : Str} {scope : Scope} {cl : List (Str × Addr)}
/-- what an element of a generator over range(n) gives, whatever the frame it runs in -/
def EltOk (prog : Program) (w : World) (A : Around) (g : Heap) (P : Addr) (nw : Led) (env : Env) (elt : Expr) (x : Str) (scope : Scope) (cl : List (Str × Addr)) (n : Nat) (f : Nat → Int) : Prop :=
  ∀ (code : Value) (C : Addr) (A' : Around) (E' : Value → Shared → Prop) (i : Nat) (t : Tok) (u : Shared) (m₂ : Str → Option Value), A'.handled = none → A'.depth ≤ A.depth + 1 → A'.units ≤ A.units + 8 → i < n → Fr g C u.heap m₂ → m₂ x = some (.int (i : Int) t) → News g C u.heap (offP P nw) →
    wpAny (model prog w) A' (eval elt (genEnv scope cl C code builtinsNs env)) (fun y s₃ => (∃ t, y = .int (f i) t) ∧ Keeps u s₃) E' u
/-- a generator that will give f 0 .. f (n - 1) and keeps the ledger -/
def GenL (prog : Program) (w : World) (A : Around) (nw : Led) (L a : Addr) (n : Nat) (f : Nat → Int) (s : Shared) : Prop :=
  ∃ K, L ≤ K ∧ (∀ p ∈ nw, p.1 ≤ K) ∧ Gen prog w A K a n (fun j y => ∃ i, (List.range n)[j]? = some i ∧ ∃ t, y = .int (f i) t) s
/-- what the range of a generator must hand over -/
inductive GSrc (prog : Program) (w : World) (A : Around) (g : Heap) (L P : Addr) (m : Str → Option Value) (env : Env) (elt : Expr) (x : Str) (scope : Scope) (cl : List (Str × Addr)) (Q : Value → Shared → Prop) (xv : Value) (s₁ : Shared) : Prop
  | mk (r : Addr) (t u v : Tok) (n : Nat) (nw : Led) (ps : Array Value) (f : Nat → Int) (e : xv = .ref r) (hr : IsRange s₁.heap r 0 (n : Int) 1 t u v) (hn : n ≤ 2 ^ 20) (F : Fr g L s₁.heap m) (N : News g L s₁.heap nw) (hP : (P, tabObj ps) ∈ nw) (ht : TriplesOk ps.toList) (G : AllBare s₁.gens) (hl : g.NoLimit)
    (he : EltOk prog w A g P nw env elt x scope cl n f)
    (fin : ∀ a s₅ ps', Fr g L s₅.heap m → News g L s₅.heap ((P, tabObj ps') :: offP P nw) → TriplesOk ps'.toList → AllBare s₅.gens → s₅.os = s₁.os → GenL prog w A ((P, tabObj ps') :: offP P nw) L a n f s₅ → Q (.ref a) s₅)
theorem code_either {M : Model} {pos : Pos} {q : Str} {ps : Array Value} {Q : Value → Shared → Prop} (hcode : env.code = .ref c) (C : CodeHd s.heap c P) (hP : s.heap.get? P = some (tabObj ps)) (ht : TriplesOk ps.toList)
    (h : ∀ code h' tk ps', Heap.ExtBut P s.heap h' → s.heap.objs.size ≤ h'.objs.size → h'.get? P = some (tabObj ps') → TriplesOk ps'.toList → Q code { s with heap := h', toks := tk }) : wpAny M A (genexprCode env pos q scope) Q E s := by
  have hok := C.code hP ht
  cases hnf : codeAmong pos ps.toList with
  | some cv => exact wpAny_genexprCode_hit hcode hok hnf (h cv s.heap s.toks ps (Heap.ExtBut.refl _ _) (Nat.le_refl _) hP ht)
  | none =>
    refine wpAny_genexprCodeX hcode hok (C.tab hP) hnf fun c' h' tk hx hge hlt _ _ htab _ => h _ h' tk _ hx (Nat.le_trans hge (Nat.le_of_lt hlt)) htab.2 ?_
    rw [Array.toList_append]
    exact TriplesOk_snoc _ _ _ _ ht
theorem passing_all (n : Nat) : passing (fun _ => true) n 0 = List.range n := by
  simp [passing]
theorem GeneratorExp_L {iter : Expr} {px : Pos} {pos : Pos} {Q : Value → Shared → Prop} (_F₀ : Fr g L s.heap m) (M : BMod g env.globals mg bm ob) (C : CodeHd g c P) (hg : g.get? P = none) (hPL : P ≠ L) (hcode : env.code = .ref c)
    (hh : A.handled = none) (hco : scope.isCoroutine = false) (hclos : closureFor scope env = pure cl) (hcell : ∀ y ∈ scope.names, y.2 ≠ .cell) (h0 : scope.names.lookup (".0" : Str) = some NameKind.local)
    (hx : scope.names.lookup x = some .local) (hkind : scope.kind = .function) (hroom : A.depth < recursionLimit) (hs : ∀ x, genFold iter env x = pure x)
    (h : wpAny (model prog w) A (eval iter env) (GSrc prog w A g L P m env elt x scope cl Q) E s) :
    wpAny (model prog w) A (eval (.GeneratorExp elt [⟨.Name x px, iter, [], 0⟩] scope pos) env) Q E s := by
  refine wpAny_GeneratorExp_walksQD hh hco hclos hcell h0 hx hkind hroom (wpAny_mono h (fun xv s₁ h₁ => ?_) fun _ _ e => e) hs
  obtain ⟨r, t, u, v, n, nw, ps, f, rfl, hr, hn, F, N, hP, ht, G, hl, he, fin⟩ := h₁
  have hn' : (n : Int) < 2 ^ 62 := by have : (2 : Nat) ^ 20 < 2 ^ 62 := by decide
                                      omega
  refine wpAny_pyIter_range hr (small_one (by omega) (by omega) (by omega) hn') ?_
  generalize hH : s₁.heap.push { cls := .type "range_iterator", data := .fields #[rawInt 0, rawInt (Builtin.Range.rangeSize 0 (n : Int) 1), rawInt 1] } = H
  have hsz : H.objs.size = s₁.heap.objs.size + 1 := by rw [← hH, Heap.size_push]
  have up : ∀ b o, s₁.heap.get? b = some o → H.get? b = some o := fun b o e => hH ▸ Heap.get?_push_of_some _ e
  have F₂ : Fr g L H m := F.keeps up
  have N₂ : News g L H nw := fun p hp => ⟨up _ _ (N p hp).1, (N p hp).2⟩
  have hI : H.get? s₁.heap.objs.size = some { cls := .type "range_iterator", data := .fields #[rawInt 0, rawInt (Builtin.Range.rangeSize 0 (n : Int) 1), rawInt 1] } := by rw [← hH]; exact Heap.get?_push_size _ rfl
  refine ⟨hl.keeps F₂.keep, code_either hcode (C.keeps F₂.keep) (N₂ _ hP).1 ht fun code h₃ tk₃ ps' hx₃ hge hP₃ ht₃ => ?_⟩
  dsimp only at hx₃ hge ⊢
  have keep₃ : ∀ b o, g.get? b = some o → h₃.get? b = some o := fun b o e => hx₃ b o (fun q => by rw [q, hg] at e; cases e) (F₂.keep b o e)
  have M₃ := M.keeps keep₃
  refine wpAny_builtinsFor M₃.ns M₃.name M₃.ne M₃.obj M₃.cls M₃.dict M₃.data ?_
  have F₃ : Fr g L h₃ m := ⟨F₂.ns.extBut hx₃ (Ne.symm hPL), keep₃, F₂.above⟩
  have N₃ : News g L h₃ ((P, tabObj ps') :: offP P nw) := fun p hp => by
    rcases List.mem_cons.mp hp with rfl | hp
    · exact ⟨hP₃, hPL, hg⟩
    · have q := of_offP hp
      have z := N₂ p q.1
      exact ⟨hx₃ _ _ q.2 z.1, z.2⟩
  have hPlt : P < s₁.heap.objs.size := Heap.lt_size (N _ hP).1
  have hLlt : L < s₁.heap.objs.size := F.ns.lt
  have hnlt : ∀ p ∈ ((P, tabObj ps') :: offP P nw : Led), p.1 < s₁.heap.objs.size := fun p hp => by
    rcases List.mem_cons.mp hp with rfl | hp
    · exact hPlt
    · exact Heap.lt_size (N p (of_offP hp).1).1
  have hIP : s₁.heap.objs.size ≠ P := Ne.symm (Nat.ne_of_lt hPlt)
  have hI₃ : h₃.get? s₁.heap.objs.size = some _ := hx₃ _ _ hIP hI
  have W₀ : ∀ A' : Around, A'.handled = none → Walks prog w A' s₁.heap.objs.size [s₁.heap.objs.size] [s₁.heap.objs.size] n _ _ := fun A' hA => (Walks.range hA s₁.heap.objs.size 0 1 n).bound
  have hlt3 : s₁.heap.objs.size < h₃.objs.size := Nat.lt_of_lt_of_le (by rw [hsz]; exact Nat.lt_succ_self _) hge
  have hl₃ : h₃.NoLimit := hl.keeps keep₃
  refine ⟨s₁.heap.objs.size, [s₁.heap.objs.size], [s₁.heap.objs.size], n, _, _, fun _ => true, fun j y => ∃ t, y = .int (f j) t, rfl, W₀, ?_, ?_, hl₃, ?_, ?_, ?_⟩
  · show IsRangeIter _ _ _ _ _
    rw [show Builtin.Range.rangeSize 0 (n : Int) 1 = (n : Int) by rw [rangeSize_nat]; omega] at hI₃
    simpa using hI₃
  · intro b hb; rw [List.mem_singleton.mp hb]; exact hlt3
  · intro hm
    have : cStatics = s₁.heap.objs.size := List.mem_singleton.mp hm
    obtain ⟨_, hns, _⟩ := hl.keeps F.keep
    exact Nat.lt_irrefl _ (this ▸ hns.lt)
  · intro href hhref
    have inB : ∀ (t : Shared) m₂, t.heap.Ns h₃.objs.size m₂ → (∀ b ∈ List.range h₃.objs.size, b ∉ [s₁.heap.objs.size] → ∀ o, href.get? b = some o → t.heap.get? b = some o) →
        Fr g h₃.objs.size t.heap m₂ ∧ News g h₃.objs.size t.heap (offP P nw) := fun t m₂ hn hkp => by
      have old : ∀ b o, b < s₁.heap.objs.size → h₃.get? b = some o → t.heap.get? b = some o := fun b o hb e =>
        hkp b (List.mem_range.mpr (Nat.lt_trans hb hlt3)) (fun q => Nat.lt_irrefl _ ((List.mem_singleton.mp q) ▸ hb)) o (hhref b o e)
      refine ⟨⟨hn, fun b o e => old b o (Heap.lt_size (F.keep b o e)) (keep₃ b o e), Nat.le_trans F.above (Nat.le_trans (Nat.le_of_lt hLlt) (Nat.le_of_lt hlt3))⟩, fun p hp => ?_⟩
      have q := of_offP hp
      have hb := Heap.lt_size (N p q.1).1
      exact ⟨old _ _ hb (N₃ p (List.mem_cons_of_mem _ hp)).1, Nat.ne_of_lt (Nat.lt_trans hb hlt3), (N p q.1).2.2⟩
    refine ⟨fun A' E' i v t m₂ hA hD hU hP hn hm hkp => wpAny_tests_nil ⟨rfl, _, _, rfl, fun _ _ e => e⟩, fun A' E' i v t m₂ hA hD hU hP hp hn hm hkp => ?_⟩
    obtain ⟨hi, tk, rfl⟩ := hP
    have z := inB t m₂ hn hkp
    rw [show (0 : Int) + (i : Int) * 1 = (i : Int) by omega] at hm
    exact he code h₃.objs.size A' E' i tk t m₂ hA hD hU hi z.1 hm z.2
  · intro a h₅ tk gs hgb hag hsz₅ hk₅ W hat
    refine fin a _ ps' (F₃.keeps hk₅) (fun p hp => ⟨hk₅ _ _ (N₃ p hp).1, (N₃ p hp).2⟩) ht₃ (G.push hgb) rfl ⟨s₁.heap.objs.size - 1, Nat.le_sub_one_of_lt hLlt, fun p hp => Nat.le_sub_one_of_lt (hnlt p hp), ?_⟩
    rw [passing_all, List.length_range] at W
    refine ⟨_, _, _, _, W, hat, (fun i s' st => st.1.typeIs), List.mem_cons_self, fun b hb => ?_, fun b hb => ?_⟩
    · show b < h₅.objs.size
      rw [hsz₅]
      rcases List.mem_cons.mp hb with rfl | hb
      · exact Nat.lt_succ_self _
      · rcases List.mem_cons.mp hb with rfl | hb
        · exact Nat.lt_succ_of_lt hag
        · exact Nat.lt_succ_of_lt (Nat.lt_trans (List.mem_range.mp hb) hag)
    · have hpos : 0 < s₁.heap.objs.size := Nat.lt_of_le_of_lt (Nat.zero_le _) hLlt
      rcases List.mem_cons.mp hb with rfl | hb
      · exact Nat.lt_of_le_of_lt (Nat.sub_le _ _) hlt3
      · rw [List.mem_singleton.mp hb]; exact Nat.sub_lt hpos Nat.one_pos
theorem sum_L {a : Addr} {n : Nat} {f : Nat → Int} {nw : Led} {Q : Value → Shared → Prop} (F : Fr g L s.heap m) (N : News g L s.heap nw) (G : AllBare s.gens) (X : GenL prog w A nw L a n f s)
    (h : ∀ s' t', Fr g L s'.heap m → News g L s'.heap nw → AllBare s'.gens → s'.os = s.os → Q (.int (preSum f n) t') s') : wpAny (model prog w) A (call (.builtin "sum") [.ref a]) Q E s := by
  obtain ⟨K, hLK, hnK, X⟩ := X
  refine sum_rowsKA F G X hLK (fun j => f j) (fun j v hv => ?_) fun s' t' F' G' hos hk => h s' t' F' (fun p hp => ⟨hk _ _ (hnK p hp) (N p hp).1, (N p hp).2⟩) G' hos
  obtain ⟨i, hi, t, rfl⟩ := hv
  have e := List.getElem?_eq_some_iff.mp hi
  obtain ⟨e1, e2⟩ := e
  rw [List.getElem_range] at e2
  exact ⟨t, by rw [e2]⟩
end
theorem ints_getD : ∀ {vs : List Value} {as : List Int} (_ : IntsAre vs as) {i : Nat} (_ : i < as.length), ∃ t, vs[i]? = some (.int (as.getD i 0) t)
  | _, _, .cons _ t h, 0, _ => ⟨t, rfl⟩
  | _, _, .cons _ _ h, i + 1, hi => by
    obtain ⟨t, e⟩ := ints_getD h (i := i) (by simpa using hi)
    exact ⟨t, by simpa using e⟩
theorem bits_le_of_natAbs {x : Int} {B : Nat} (h : x.natAbs < 2 ^ B) : Builtin.Int.intBits x ≤ B := by
  unfold Builtin.Int.intBits
  by_cases e : x = 0
  · subst e; simp
  · have hn : x.natAbs ≠ 0 := by omega
    simp only [beq_iff_eq, e, if_false]
    rw [← Nat.log2_lt hn] at h
    omega
theorem pow_natAbs {p : Int} (h0 : 0 < p) (h : p < 256) (n : Nat) : (p ^ n).natAbs < 2 ^ (8 * n + 1) := by
  rw [Int.natAbs_pow, Nat.pow_succ]
  have h1 : p.natAbs ≤ 2 ^ 8 := by omega
  have h2 : p.natAbs ^ n ≤ (2 ^ 8) ^ n := Nat.pow_le_pow_left h1 n
  rw [← Nat.pow_mul] at h2
  have h3 : 0 < 2 ^ (8 * n) := Nat.two_pow_pos _
  omega
theorem bd_pow {p : Int} (h0 : 0 < p) (h : p < 256) {n : Nat} (hn : n ≤ 64) : Bd (p ^ n) :=
  Nat.le_trans (bits_le_of_natAbs (pow_natAbs h0 h n)) (Nat.le_trans (by omega : 8 * n + 1 ≤ 1024) (by decide))
theorem pow_bits {p : Int} (h0 : 0 < p) (h : p < 256) {n : Nat} (hn : n ≤ 64) : (Builtin.Int.intBits p : Int) * (n : Int) ≤ 2 ^ 27 := by
  have h1 : Builtin.Int.intBits p ≤ 8 := bits_le_of_natAbs (by omega)
  have h2 : Builtin.Int.intBits p * n ≤ 8 * 64 := Nat.mul_le_mul h1 hn
  have h3 : ((Builtin.Int.intBits p * n : Nat) : Int) ≤ ((8 * 64 : Nat) : Int) := Int.ofNat_le.mpr h2
  rw [Int.natCast_mul] at h3
  exact Int.le_trans h3 (by decide)
theorem preSum_bound {f : Nat → Int} {B : Int} : ∀ {n : Nat}, (∀ i, i < n → 0 ≤ f i ∧ f i ≤ B) → 0 ≤ preSum f n ∧ preSum f n ≤ n * B
  | 0, _ => by
    show (0 : Int) ≤ 0 ∧ (0 : Int) ≤ ((0 : Nat) : Int) * B
    simp
  | n + 1, h => by
    have ih := preSum_bound (n := n) fun i hi => h i (Nat.lt_succ_of_lt hi)
    have z := h n (Nat.lt_succ_self n)
    show 0 ≤ preSum f n + f n ∧ preSum f n + f n ≤ ((n + 1 : Nat) : Int) * B
    have e : ((n + 1 : Nat) : Int) * B = (n : Int) * B + B := by rw [Int.natCast_add, Int.add_mul]; simp
    omega
theorem getD_all {as : List Int} {Q : Int → Prop} (h : ∀ x ∈ as, Q x) {i : Nat} (hi : i < as.length) : Q (as.getD i 0) := by
  rw [List.getD_eq_getElem?_getD, List.getElem?_eq_getElem hi]
  exact h _ (List.getElem_mem hi)
end Mine05
end
section
namespace Mine05
open LCg
section
variable {prog : Program} {w : World} {A : Around} {E : Value → Shared → Prop} {s : Shared} {h₀ : Heap} {L : Addr} {m : Str → Option Value} {env : Env}
/-- where a turn of a comprehension ends; the generators' states may have grown -/
inductive TEnd (h₀ : Heap) (L : Addr) (m : Str → Option Value) (s₁ : Shared) (I S D : Addr) (oI oS oD : Obj) (R : Value → Led → Prop) (y : Value) (s₂ : Shared) : Prop
  | mk (nw all : Led) (F : Fr h₀ L s₂.heap m) (N : News h₀ L s₂.heap all) (hI : (I, oI) ∈ all) (hS : (S, oS) ∈ all) (hD : (D, oD) ∈ all) (hs : Sub nw all) (off : ∀ p ∈ nw, p.1 ≠ I ∧ p.1 ≠ S ∧ p.1 ≠ D) (G : AllBare s₂.gens) (hos : s₂.os = s₁.os) (r : R y nw)
/-- what stands at the head of each turn -/
inductive GInv (h₀ : Heap) (L : Addr) (m : Str → Option Value) (s₁ : Shared) (I S D : Addr) (n : Nat) (St : Nat → Heap → Prop) (Slot : Obj → Prop) (Src : Led → Prop) (R : Nat → List Value → Led → Prop) (k : Nat) (s' : Shared) : Prop
  | mk (i : Nat) (ys : List Value) (nw : Led) (oS : Obj) (hi : i ≤ n) (ek : k = n + 1 - i) (hl : ys.length = i) (hst : St i s'.heap) (F : Fr h₀ L s'.heap m) (N : News h₀ L s'.heap ((S, oS) :: (D, lst ys) :: nw)) (hoS : Slot oS) (off : ∀ p ∈ nw, p.1 ≠ I ∧ p.1 ≠ S ∧ p.1 ≠ D) (hS : Src nw) (G : AllBare s'.gens) (hos : s'.os = s₁.os) (hR : R i ys nw)
theorem loop_G {elt iter : Expr} {x : Str} {px : Pos} {scope : Scope} {pos : Pos} {cenv : Env} {I S D : Addr} {fp : List Addr} {n : Nat} {P : Nat → Value → Prop} {St : Nat → Heap → Prop} {Var : Value → Obj → Prop} {Slot : Obj → Prop} {Src : Led → Prop}
    {R : Nat → List Value → Led → Prop} {RR : Result → Shared → Prop} {s₁ s₃ : Shared} {news : Led} {oS : Obj}
    (W : Walks prog w A I fp [I] n P St) (hsz : n ≤ sizeLine) (hIo : ∀ i h, St i h → ∃ o, h.get? I = some o ∧ ∀ ps, o ≠ tabObj ps)
    (hSt : ∀ i h h' o nw, St i h → h.get? I = some o → h'.get? I = some o → (∀ b o, h₀.get? b = some o → h'.get? b = some o) → News h₀ L h' nw → Src nw → St i h')
    (hSf : S ∉ fp) (hDf : D ∉ fp) (hIL : L ≠ I) (hSL : S ≠ L) (hDL : D ≠ L) (hI₀ : h₀.get? I = none) (hS₀ : h₀.get? S = none) (hD₀ : h₀.get? D = none) (hIS : I ≠ S) (hID : I ≠ D) (hSD : S ≠ D)
    (hstore : ∀ (v : Value) (s : Shared) (o : Obj) (Q : Unit → Shared → Prop) (E' : Value → Shared → Prop), Slot o → s.heap.get? S = some o → (∀ h' tk o', Heap.SameBut S s.heap h' → h'.get? S = some o' → Slot o' → Var v o' → Q () { s with heap := h', toks := tk }) → wpAny (model prog w) A (assign (.Name x px) cenv v) Q E' s)
    (hst : St 0 s₃.heap) (F : Fr h₀ L s₃.heap m) (N : News h₀ L s₃.heap ((S, oS) :: (D, lst []) :: news)) (hoS : Slot oS) (off : ∀ p ∈ news, p.1 ≠ I ∧ p.1 ≠ S ∧ p.1 ≠ D) (hSrc : Src news) (G : AllBare s₃.gens) (hos : s₃.os = s₁.os) (hR : R 0 [] news)
    (turn : ∀ i v oI oS ys nw (s' : Shared) (E' : Value → Shared → Prop), i < n → P i v → R i ys nw → Src nw → Slot oS → Var v oS → Fr h₀ L s'.heap m → News h₀ L s'.heap ((I, oI) :: (S, oS) :: (D, lst ys) :: nw) → (∀ p ∈ nw, p.1 ≠ I ∧ p.1 ≠ S ∧ p.1 ≠ D) → (∀ ps, oI ≠ tabObj ps) → AllBare s'.gens → s'.os = s₁.os →
      wpAny (model prog w) A (eval elt cenv) (TEnd h₀ L m s₁ I S D oI oS (lst ys) (fun y nw' => Src nw' ∧ R (i + 1) (ys ++ [y]) nw')) E' s')
    (fin : ∀ ys nw oS (s' : Shared), R n ys nw → Src nw → Fr h₀ L s'.heap m → News h₀ L s'.heap ((S, oS) :: (D, lst ys) :: nw) → Slot oS → (∀ p ∈ nw, p.1 ≠ I ∧ p.1 ≠ S ∧ p.1 ≠ D) → AllBare s'.gens → s'.os = s₁.os → RR (.ok .next) s') :
    codeAny (model prog w) A (.compLoop (.ListComp elt [⟨.Name x px, iter, [], 0⟩] scope pos) 0 (.ref I) (.ref D) cenv) RR s₃ := by
  have hIf : I ∈ fp := W.sub I (List.mem_singleton.mpr rfl)
  refine codeAny_compLoop_tests
    (GInv h₀ L m s₁ I S D n St Slot Src R) ?_ (n + 1)
    ⟨0, [], news, oS, Nat.zero_le _, rfl, rfl, hst, F, N, hoS, off, hSrc, G, hos, hR⟩
  rintro k s' ⟨i, ys, nw, oS, hi, rfl, hyl, hst', F', N', hoS, off', hS', G', hos', R'⟩
  by_cases hlt : i < n
  · refine W.item i _ _ _ hlt hst' fun v h₂ tk₂ hPv hst₂ hk₂ => ?_
    have hk₂' : ∀ b o, b ≠ I → s'.heap.get? b = some o → h₂.get? b = some o := fun b o hb e => hk₂ b o (by simpa using hb) e
    refine hstore v _ oS _ _ hoS (hk₂' _ _ (Ne.symm hIS) (N' _ List.mem_cons_self).1) fun h₃ tk₃ oS₃ hs₃ hoS₃ hsl₃ hv₃ => ?_
    dsimp only at hs₃ hoS₃ ⊢
    refine wpAny_tests_nil ?_
    simp only [if_true]
    have hst₃ : St (i + 1) h₃ := W.frame _ _ _ hst₂ fun b hb o e => hs₃.extBut b o (fun q => hSf (by have q' : b = S := q; rw [← q']; exact hb)) e
    obtain ⟨oI, heI, hnt⟩ := hIo _ _ hst₃
    have F₃ : Fr h₀ L h₃ m := (fr_but F' hk₂ hIL hI₀).change hs₃ hSL hS₀
    have N₃ : News h₀ L h₃ ((I, oI) :: (S, oS₃) :: (D, lst ys) :: nw) := fun p hp => by
      rcases List.mem_cons.mp hp with rfl | hp
      · exact ⟨heI, Ne.symm hIL, hI₀⟩
      · rcases List.mem_cons.mp hp with rfl | hp
        · exact ⟨hoS₃, hSL, hS₀⟩
        · have z := N' p (List.mem_cons_of_mem _ hp)
          rcases List.mem_cons.mp hp with rfl | hp
          · exact ⟨hs₃.extBut _ _ (Ne.symm hSD) (hk₂' _ _ (Ne.symm hID) z.1), z.2⟩
          · have o := off' p hp
            exact ⟨hs₃.extBut _ _ o.2.1 (hk₂' _ _ o.1 z.1), z.2⟩
    refine wpAny_mono (turn i v oI oS₃ ys nw _ _ hlt hPv R' hS' hsl₃ hv₃ F₃ N₃ off' hnt G' hos') (fun y s₄ h₄ => ?_) fun _ _ e => e
    obtain ⟨nw₄, all₄, F₄, N₄, zI, zS, zD, sub₄, off₄, G₄, hos₄, hS₄, R₄⟩ := h₄
    have hst₄ : St (i + 1) s₄.heap := hSt _ _ _ _ _ hst₃ heI (N₄ _ zI).1 F₄.keep (fun p hp => N₄ p (sub₄ p hp)) hS₄
    refine append_at (hsz := by show ys.toArray.size ≤ sizeLine; rw [List.size_toArray, hyl]; exact Nat.le_trans hi hsz) (N₄ _ zD).1 fun h₅ hs₅ hD₅ => ?_
    refine ⟨n + 1 - (i + 1), by omega, i + 1, ys ++ [y], nw₄, oS₃, hlt, rfl, by rw [List.length_append, List.length_singleton, hyl], W.frame _ _ _ hst₄ fun b hb o e => hs₅.extBut b o (fun q => hDf (q ▸ hb)) e, F₄.change hs₅ hDL hD₀, fun p hp => ?_, hsl₃, off₄, hS₄, G₄, hos₄, R₄⟩
    rcases List.mem_cons.mp hp with rfl | hp
    · exact ⟨hs₅.extBut _ _ hSD (N₄ _ zS).1, hSL, hS₀⟩
    · rcases List.mem_cons.mp hp with rfl | hp
      · exact ⟨hD₅.trans (congrArg some (lst_snoc ys y)), hDL, hD₀⟩
      · have z := N₄ p (sub₄ p hp)
        exact ⟨hs₅.extBut _ _ (off₄ p hp).2.2 z.1, z.2⟩
  · obtain rfl : i = n := Nat.le_antisymm hi (Nat.not_lt.mp hlt)
    refine W.done _ _ _ hst' fun h₂ tk₂ hk₂ => ?_
    refine fin ys nw oS _ R' hS' (fr_but F' hk₂ hIL hI₀) (news_but N' hk₂ fun p hp => ?_) hoS off' G' hos'
    rcases List.mem_cons.mp hp with rfl | hp
    · exact Ne.symm hIS
    · rcases List.mem_cons.mp hp with rfl | hp
      · exact Ne.symm hID
      · exact (off' p hp).1
/-- what a list of the ledger hands over to a comprehension whose turns may make generators -/
inductive CSrcG (prog : Program) (w : World) (A : Around) (h₀ : Heap) (L : Addr) (m : Str → Option Value) (env : Env) (elt : Expr) (x : Str) (scope : Scope) (cl : List (Str × Addr)) (Fin : Shared → List Value → Led → Prop) (xv : Value) (s₁ : Shared) : Prop
  | mk (ax : Addr) (its : Array Value) (k : Nat) (news : Led) (R : Nat → List Value → Led → Prop) (e : xv = .ref ax) (hh : A.handled = none) (F : Fr h₀ L s₁.heap m) (N : News h₀ L s₁.heap news) (hm : (ax, W.listOf its k) ∈ news) (hsz : its.size ≤ sizeLine) (G : AllBare s₁.gens) (h0 : R 0 [] news)
    (turn : ∀ i v I oI C oC D ys nw (s' : Shared) (E' : Value → Shared → Prop), i < its.size → its[i]? = some v → R i ys nw → (ax, W.listOf its k) ∈ nw → (∃ m₂, NsObj oC m₂ ∧ m₂ x = some v) → Fr h₀ L s'.heap m → News h₀ L s'.heap ((I, oI) :: (C, oC) :: (D, lst ys) :: nw) → (∀ p ∈ nw, p.1 ≠ I ∧ p.1 ≠ C ∧ p.1 ≠ D) → (∀ ps, oI ≠ tabObj ps) → AllBare s'.gens → s'.os = s₁.os →
      wpAny (model prog w) A (eval elt (compEnvC scope cl C env)) (TEnd h₀ L m s₁ I C D oI oC (lst ys) (fun y nw' => (ax, W.listOf its k) ∈ nw' ∧ R (i + 1) (ys ++ [y]) nw')) E' s')
    (fin : ∀ ys nw, R its.size ys nw → Fin s₁ ys nw)
theorem slot_ns {scope : Scope} {cl : List (Str × Addr)} {C : Addr} {x : Str} {px : Pos} (hx : scope.names.lookup x = some .local) (hkind : scope.kind = .function) (v : Value) (s : Shared) (o : Obj) (Q : Unit → Shared → Prop) (E' : Value → Shared → Prop) (hs : ∃ m₂, NsObj o m₂) (ho : s.heap.get? C = some o)
    (h : ∀ h' tk o', Heap.SameBut C s.heap h' → h'.get? C = some o' → (∃ m₂, NsObj o' m₂) → (∃ m₂, NsObj o' m₂ ∧ m₂ x = some v) → Q () { s with heap := h', toks := tk }) : wpAny (model prog w) A (assign (.Name x px) (compEnvC scope cl C env) v) Q E' s := by
  obtain ⟨m₂, hm₂⟩ := hs
  refine wpAny_assign_Name (wpAny_storeName_local (lookup_relabel_local hx) (hm₂.ns ho) (fun h₃ hn₃ hs₃ => ?_) (by simp [compEnvC, relabel, hkind]))
  obtain ⟨oC, heC, hoC⟩ := ns_obj hn₃
  exact h h₃ _ oC hs₃ heC ⟨_, hoC⟩ ⟨_, hoC, by simp⟩
/-- the block behind the first iterable: a list of the ledger, a letter of the comprehension's own -/
theorem block_G {elt iter : Expr} {x : Str} {px : Pos} {scope : Scope} {cl : List (Str × Addr)} {pos : Pos} {s₁ : Shared} {ax : Addr} {its : Array Value} {k : Nat} {news : Led} {R : Nat → List Value → Led → Prop} {RR : Value → Addr → Result → Shared → Prop}
    (hcell : ∀ y ∈ scope.names, y.2 ≠ .cell) (hkind : scope.kind = .function) (hx : scope.names.lookup x = some .local)
    (hh : A.handled = none) (F : Fr h₀ L s₁.heap m) (N : News h₀ L s₁.heap news) (hm : (ax, W.listOf its k) ∈ news) (hsz : its.size ≤ sizeLine) (G : AllBare s₁.gens) (h0 : R 0 [] news)
    (turn : ∀ i v I oI C oC D ys nw (s' : Shared) (E' : Value → Shared → Prop), i < its.size → its[i]? = some v → R i ys nw → (ax, W.listOf its k) ∈ nw → (∃ m₂, NsObj oC m₂ ∧ m₂ x = some v) → Fr h₀ L s'.heap m → News h₀ L s'.heap ((I, oI) :: (C, oC) :: (D, lst ys) :: nw) → (∀ p ∈ nw, p.1 ≠ I ∧ p.1 ≠ C ∧ p.1 ≠ D) → (∀ ps, oI ≠ tabObj ps) → AllBare s'.gens → s'.os = s₁.os →
      wpAny (model prog w) A (eval elt (compEnvC scope cl C env)) (TEnd h₀ L m s₁ I C D oI oC (lst ys) (fun y nw' => (ax, W.listOf its k) ∈ nw' ∧ R (i + 1) (ys ++ [y]) nw')) E' s')
    (hRR : ∀ D C m' ys nw (s' : Shared), R its.size ys nw → Fr h₀ L s'.heap m → News h₀ L s'.heap ((D, lst ys) :: nw) → (∀ p ∈ nw, p.1 ≠ D) → s'.heap.Ns C m' → h₀.get? C = none → h₀.get? D = none → C ≠ L → D ≠ L → C ≠ D → (∀ p ∈ nw, p.1 ≠ C) → AllBare s'.gens → s'.os = s₁.os → RR (.ref D) C (.ok .next) s') :
    wpAny (model prog w) A (pyIter (.ref ax)) (fun it s₂ => wpAny (model prog w) A (newList []) (fun acc s₃ => wpAny (model prog w) A (newFunctionEnv scope env.globals cl [] env.qual none .none (some env)) (fun cenv s₄ =>
      codeAny (model prog w) A (.compStart (.ListComp elt [⟨.Name x px, iter, [], 0⟩] scope pos) 0 it acc { cenv with scope := relabel scope env }) (RR acc cenv.locals) s₄) E s₃) E s₂) E s₁ := by
  have hl := News.isList N hm
  have hlt : ax < s₁.heap.objs.size := Heap.lt_size (N _ hm).1
  refine wpAny_pyIter_list hl ?_
  generalize hH1 : s₁.heap.push { cls := .type "list_iterator", data := .fields #[.ref ax, .int 0 0] } = H1
  have hI : H1.get? s₁.heap.objs.size = some { cls := .type "list_iterator", data := .fields #[.ref ax, .int 0 0] } := by rw [← hH1]; exact Heap.get?_push_size _ rfl
  have z1 : H1.objs.size = s₁.heap.objs.size + 1 := by rw [← hH1, Heap.size_push]
  have up1 : ∀ b o, s₁.heap.get? b = some o → H1.get? b = some o := fun b o e => hH1 ▸ Heap.get?_push_of_some _ e
  refine wpAny_newObj_type (wpAny_newFunctionEnv hcell (by intro y hy; simp at hy) (fun h₁ hns₁ hsb₁ => ?_) hkind)
  dsimp only at hns₁ hsb₁ ⊢
  generalize hH2 : H1.push { cls := .type "list", dict := none, data := .seq ([] : List Value).toArray } = H2 at hns₁ hsb₁ ⊢
  have z2 : H2.objs.size = H1.objs.size + 1 := by rw [← hH2, Heap.size_push]
  have hC : H2.objs.size = s₁.heap.objs.size + 2 := by rw [z2, z1]
  have up2 : ∀ b o, b < H1.objs.size → H1.get? b = some o → h₁.get? b = some o := fun b o hb e => hsb₁.extBut b o (by show b ≠ H2.objs.size; rw [z2]; exact Nat.ne_of_lt (Nat.lt_succ_of_lt hb)) (Heap.get?_push_of_some _ (hH2 ▸ Heap.get?_push_of_some _ e))
  have old : ∀ b o, s₁.heap.get? b = some o → h₁.get? b = some o := fun b o e => up2 b o (by rw [z1]; exact Nat.lt_succ_of_lt (Heap.lt_size e)) (up1 b o e)
  have hDC : H1.objs.size ≠ H2.objs.size := by rw [z2]; exact Nat.ne_of_lt (Nat.lt_succ_self _)
  have hacc : h₁.get? H1.objs.size = some (lst []) := hsb₁.extBut _ _ hDC (Heap.get?_push_of_some _ (hH2 ▸ Heap.get?_push_size _ rfl))
  have hI₁ : h₁.get? s₁.heap.objs.size = some { cls := .type "list_iterator", data := .fields #[.ref ax, .int 0 0] } := up2 _ _ (by rw [z1]; exact Nat.lt_succ_self _) hI
  have fresh₀ : ∀ a, s₁.heap.objs.size ≤ a → h₀.get? a = none := fun a ha => Heap.get?_none_of_le (Nat.le_trans (Nat.le_of_lt (Nat.lt_of_le_of_lt F.above F.ns.lt)) ha)
  have hLlt : L < s₁.heap.objs.size := F.ns.lt
  have hDs : s₁.heap.objs.size < H1.objs.size := by rw [z1]; exact Nat.lt_succ_self _
  have hCs : s₁.heap.objs.size < H2.objs.size := by rw [hC]; exact Nat.lt_succ_of_lt (Nat.lt_succ_self _)
  have hN1 : ∀ p ∈ news, p.1 < s₁.heap.objs.size := fun p hp => Heap.lt_size (N p hp).1
  obtain ⟨oC, heC, hoC⟩ := ns_obj hns₁
  have W₀ := Walks.list (prog := prog) (w := w) hh s₁.heap.objs.size ax (Nat.ne_of_lt hlt) its
  have loop : ∀ s₃ : Shared, s₃ = { s₁ with heap := h₁, toks := s₁.toks + ([] : List (Str × Value)).length } →
      codeAny (model prog w) A (.compLoop (.ListComp elt [⟨.Name x px, iter, [], 0⟩] scope pos) 0 (.ref s₁.heap.objs.size) (.ref H1.objs.size) (compEnvC scope cl H2.objs.size env)) (RR (.ref H1.objs.size) H2.objs.size) s₃ := by
    rintro s₃ rfl
    refine loop_G (s₁ := s₁) (news := news) (Src := fun nw => (ax, W.listOf its k) ∈ nw) (R := R) (Slot := fun o => ∃ m₂, NsObj o m₂) (Var := fun v o => ∃ m₂, NsObj o m₂ ∧ m₂ x = some v) W₀ hsz (fun i h st => ?_) (fun i h h' o nw st e e' k' N' hm' => ?_) ?_ ?_ (Nat.ne_of_lt hLlt) (Ne.symm (Nat.ne_of_lt (Nat.lt_trans hLlt hCs))) (Ne.symm (Nat.ne_of_lt (Nat.lt_trans hLlt hDs)))
      (fresh₀ _ (Nat.le_refl _)) (fresh₀ _ (Nat.le_of_lt hCs)) (fresh₀ _ (Nat.le_of_lt hDs)) (Nat.ne_of_lt hCs) (Nat.ne_of_lt hDs) (Ne.symm hDC) (slot_ns hx hkind) ⟨⟨_, hI₁, rfl, rfl⟩, hl.at fun o e => old ax o e⟩ (F.keeps old) (fun p hp => ?_) ⟨_, hoC⟩
      (fun p hp => ⟨Nat.ne_of_lt (hN1 p hp), Nat.ne_of_lt (Nat.lt_trans (hN1 p hp) hCs), Nat.ne_of_lt (Nat.lt_trans (hN1 p hp) hDs)⟩) hm G rfl h0 (fun i v oI oS ys nw s' E' hi hv hR hm' _ hvar F' N' off hnt G' hos => turn i v _ oI _ oS _ ys nw s' E' hi hv hR hm' hvar F' N' off hnt G' hos)
      (fun ys nw oS s' hR _ F' N' hsl off G' hos => ?_)
    · obtain ⟨o, e, hc, _⟩ := st.1
      exact ⟨o, e, fun ps q => by rw [q] at hc; cases hc⟩
    · exact list_st i h h' o nw st e e' k' N' (.inr ⟨_, hm', rfl, _, rfl⟩)
    · intro hm'
      rcases List.mem_cons.mp hm' with e | hm'
      · exact absurd e (Ne.symm (Nat.ne_of_lt hCs))
      · exact absurd (List.mem_singleton.mp hm') (Ne.symm (Nat.ne_of_lt (Nat.lt_trans hlt hCs)))
    · intro hm'
      rcases List.mem_cons.mp hm' with e | hm'
      · exact absurd e (Ne.symm (Nat.ne_of_lt hDs))
      · exact absurd (List.mem_singleton.mp hm') (Ne.symm (Nat.ne_of_lt (Nat.lt_trans hlt hDs)))
    · rcases List.mem_cons.mp hp with rfl | hp
      · exact ⟨heC, Ne.symm (Nat.ne_of_lt (Nat.lt_trans hLlt hCs)), fresh₀ _ (Nat.le_of_lt hCs)⟩
      · rcases List.mem_cons.mp hp with rfl | hp
        · exact ⟨hacc, Ne.symm (Nat.ne_of_lt (Nat.lt_trans hLlt hDs)), fresh₀ _ (Nat.le_of_lt hDs)⟩
        · exact ⟨old _ _ (N p hp).1, (N p hp).2⟩
    · obtain ⟨m₂, hm₂⟩ := hsl
      exact hRR _ _ m₂ ys nw s' hR F' (fun p hp => N' p (List.mem_cons_of_mem _ hp)) (fun p hp => (off p hp).2.2) (hm₂.ns (N' _ List.mem_cons_self).1) (fresh₀ _ (Nat.le_of_lt hCs)) (fresh₀ _ (Nat.le_of_lt hDs)) (Ne.symm (Nat.ne_of_lt (Nat.lt_trans hLlt hCs))) (Ne.symm (Nat.ne_of_lt (Nat.lt_trans hLlt hDs))) (Ne.symm hDC) (fun p hp => (off p hp).2.1) G' hos
  exact codeAny_compStart_list (loop _ rfl) (W₀.self 0 _ _ _ ⟨⟨_, hI₁, rfl, rfl⟩, hl.at fun o e => old ax o e⟩ (loop _ rfl))
def FinEG (h₀ : Heap) (L : Addr) (m : Str → Option Value) (Q : Value → Shared → Prop) (s₁ : Shared) (ys : List Value) (nw : Led) : Prop :=
  ∀ D (s' : Shared), Fr h₀ L s'.heap m → News h₀ L s'.heap ((D, lst ys) :: nw) → (∀ p ∈ nw, p.1 ≠ D) → AllBare s'.gens → s'.os = s₁.os → Q (.ref D) s'
def FinAG (h₀ : Heap) (L : Addr) (m : Str → Option Value) (y : Str) (Q : Flow → Shared → Prop) (s₁ : Shared) (ys : List Value) (nw : Led) : Prop :=
  ∀ D (s' : Shared), Fr h₀ L s'.heap (fun z => if z = y then some (.ref D) else m z) → News h₀ L s'.heap ((D, lst ys) :: nw) → (∀ p ∈ nw, p.1 ≠ D) → AllBare s'.gens → s'.os = s₁.os → Q .next s'
theorem ListComp_G {elt iter : Expr} {x : Str} {px : Pos} {scope : Scope} {cl : List (Str × Addr)} {pos : Pos} {Q : Value → Shared → Prop} (_F₀ : Fr h₀ L s.heap m)
    (hclos : closureFor scope env = pure cl) (hcell : ∀ y ∈ scope.names, y.2 ≠ .cell) (hkind : scope.kind = .function)
    (hnames : ∀ y ∈ scope.names, y.2 = .local → scope.names.lookup y.1 = some .local) (hx : scope.names.lookup x = some .local)
    (h : wpAny (model prog w) A (eval iter env) (CSrcG prog w A h₀ L m env elt x scope cl (FinEG h₀ L m Q)) E s)
    (hs : ∀ x, foldedSetIterable iter env x = pure x := by intro _; rfl) :
    wpAny (model prog w) A (eval (.ListComp elt [⟨.Name x px, iter, [], 0⟩] scope pos) env) Q E s := by
  rw [eval_ListComp]
  refine wpAny_comprehension_free (use := none) rfl hs hclos hkind hnames (wpAny_mono h (fun xv s₁ h₁ => ?_) fun _ _ e => e)
  obtain ⟨ax, its, k, news, R, rfl, hh, F, N, hm, hsz, G, h0, turn, fin⟩ := h₁
  refine block_G hcell hkind hx hh F N hm hsz G h0 turn fun D C m' ys nw s' hR F' N' o1 hn hC₀ hD₀ hCL hDL hCD offC G' hos => ?_
  refine ⟨m', hn, fun h'' hs'' => fin ys nw hR D _ (F'.change hs'' hCL hC₀) (fun p hp => ?_) o1 G' hos⟩
  refine ⟨hs''.extBut _ _ ?_ (N' p hp).1, (N' p hp).2⟩
  rcases List.mem_cons.mp hp with rfl | hp
  · exact Ne.symm hCD
  · exact offC p hp
theorem Assign_ListComp_G {elt iter : Expr} {x y : Str} {px py : Pos} {scope : Scope} {cl : List (Str × Addr)} {pos spos : Pos} {Q : Flow → Shared → Prop} (_F₀ : Fr h₀ L s.heap m) (hLe : env.locals = L)
    (hsw : swapsWith (.ListComp elt [⟨.Name x px, iter, [], 0⟩] scope pos) (some (.Name y py)) spos.line env = pure true)
    (hclos : closureFor scope env = pure cl) (hcell : ∀ z ∈ scope.names, z.2 ≠ .cell) (hkind : scope.kind = .function)
    (hnames : ∀ z ∈ scope.names, z.2 = .local → scope.names.lookup z.1 = some .local) (hx : scope.names.lookup x = some .local)
    (hy : env.kindOf y = some .local) (hp : (env.scope.kind == .class || (env.scope.kind == .module && env.locals != env.globals)) = false)
    (h : wpAny (model prog w) A (eval iter env) (CSrcG prog w A h₀ L m env elt x scope cl (FinAG h₀ L m y Q)) E s)
    (hs : ∀ x, foldedSetIterable iter env x = pure x := by intro _; rfl) :
    wpAny (model prog w) A (exec (.Assign [.Name y py] (.ListComp elt [⟨.Name x px, iter, [], 0⟩] scope pos) spos) env) Q E s := by
  subst hLe
  rw [exec_Assign_Name_used _ _ _ _ hsw]
  refine wpAny_bind (wpAny_standAt (wpAny_bind ?_))
  show wpAny _ A (do let _ ← comprehension (.ListComp elt [⟨.Name x px, iter, [], 0⟩] scope pos) scope env _ (newList []) false (eval iter env) (some (assign (.Name y py) env))) _ _ s
  refine wpAny_bind (wpAny_mono (wpAny_comprehension_free (use := some (assign (.Name y py) env)) (Q := fun _ s' => Q .next s') rfl hs hclos hkind hnames
    (wpAny_mono h (fun xv s₁ h₁ => ?_) fun _ _ e => e)) (fun _ s' hq => wpAny_pure (wpAny_pure hq)) fun _ _ e => e)
  obtain ⟨ax, its, k, news, R, rfl, hh, F, N, hm, hsz, G, h0, turn, fin⟩ := h₁
  refine block_G hcell hkind hx hh F N hm hsz G h0 turn fun D C m' ys nw s' hR F' N' o1 hn hC₀ hD₀ hCL hDL hCD offC G' hos => ?_
  show wpAny _ A (assign (.Name y py) env (.ref D)) _ _ _
  refine wpAny_assign_Name (wpAny_storeName_local hy F'.ns (fun h₂ hn₂ hs₂ => ?_) hp)
  have hL₀ : h₀.get? env.locals = none := Heap.get?_none_of_le F'.above
  have F₂ : Fr h₀ env.locals h₂ (fun z => if z = y then some (.ref D) else m z) := ⟨hn₂, fun b o e => hs₂.extBut b o (fun q => by rw [q, hL₀] at e; cases e) (F'.keep b o e), F'.above⟩
  refine ⟨m', hn.sameBut hs₂ hCL, fun h'' hs'' => fin ys nw hR D _ (F₂.change hs'' hCL hC₀) (fun p hp => ?_) o1 G' hos⟩
  have z : h₂.get? p.1 = some p.2 := hs₂.extBut _ _ (N' p hp).2.1 (N' p hp).1
  refine ⟨hs''.extBut _ _ ?_ z, (N' p hp).2⟩
  rcases List.mem_cons.mp hp with rfl | hp
  · exact Ne.symm hCD
  · exact offC p hp
end
end Mine05
end
section
namespace Mine05
open LCg
section
variable {prog : Program} {w : World} {A : Around} {E : Value → Shared → Prop} {s : Shared} {h₀ : Heap} {L : Addr} {m : Str → Option Value} {env : Env}
/-- what a range hands over to a comprehension whose letter is a cell and whose turns may make generators -/
inductive CSrcK (prog : Program) (w : World) (A : Around) (h₀ : Heap) (L : Addr) (m : Str → Option Value) (env : Env) (elt : Expr) (x : Str) (scope : Scope) (cl : List (Str × Addr)) (Fin : Shared → List Value → Led → Prop) (xv : Value) (s₁ : Shared) : Prop
  | mk (r : Addr) (t u v : Tok) (n : Nat) (news : Led) (R : Nat → List Value → Led → Prop) (e : xv = .ref r) (hh : A.handled = none) (F : Fr h₀ L s₁.heap m) (N : News h₀ L s₁.heap news) (hr : IsRange s₁.heap r 0 (n : Int) 1 t u v) (hn : n ≤ 2 ^ 20) (G : AllBare s₁.gens) (h0 : R 0 [] news)
    (turn : ∀ i t I oI K oK C oC D ys nw (s' : Shared) (E' : Value → Shared → Prop), i < n → R i ys nw → (C, oC) ∈ nw → oK.data = .cell (some (.int (i : Int) t)) → Fr h₀ L s'.heap m → News h₀ L s'.heap ((I, oI) :: (K, oK) :: (D, lst ys) :: nw) → (∀ p ∈ nw, p.1 ≠ I ∧ p.1 ≠ K ∧ p.1 ≠ D) → (∀ ps, oI ≠ tabObj ps) → (∀ ps, oC ≠ tabObj ps) → AllBare s'.gens → s'.os = s₁.os →
      wpAny (model prog w) A (eval elt (compEnvC scope ((x, K) :: cl) C env)) (TEnd h₀ L m s₁ I K D oI oK (lst ys) (fun y nw' => (C, oC) ∈ nw' ∧ R (i + 1) (ys ++ [y]) nw')) E' s')
    (mono : ∀ C oC, (∀ p ∈ news, p.1 ≠ C) → R 0 [] ((C, oC) :: news))
    (fin : ∀ ys nw C, R n ys nw → (∀ p ∈ news, p.1 ≠ C) → Fin s₁ ys (offP C nw))
theorem slot_cell {C K : Addr} {scope : Scope} {cl : List (Str × Addr)} {x : Str} {px : Pos} (hk : (compEnvC scope ((x, K) :: cl) C env).scope.kind = .function) (hl : (compEnvC scope ((x, K) :: cl) C env).kindOf x = some .cell) (v : Value) (s : Shared) (o : Obj) (Q : Unit → Shared → Prop) (E' : Value → Shared → Prop) (hs : ∃ v, o.data = .cell v) (ho : s.heap.get? K = some o)
    (h : ∀ h' tk o', Heap.SameBut K s.heap h' → h'.get? K = some o' → (∃ v, o'.data = .cell v) → o'.data = .cell (some v) → Q () { s with heap := h', toks := tk }) : wpAny (model prog w) A (assign (.Name x px) (compEnvC scope ((x, K) :: cl) C env) v) Q E' s := by
  obtain ⟨v₀, hv₀⟩ := hs
  refine wpAny_assign_Name (wpAny_storeName_cell hk hl (c := K) (by simp [compEnvC]) ⟨o, ho, hv₀⟩ fun h' hc' hs' => ?_)
  obtain ⟨o', ho', hd'⟩ := hc'
  exact h h' _ o' hs' ho' ⟨_, hd'⟩ hd'
theorem ListComp_K {elt iter : Expr} {x : Str} {px : Pos} {scope : Scope} {cl : List (Str × Addr)} {pos : Pos} {Q : Value → Shared → Prop} (_F₀ : Fr h₀ L s.heap m)
    (hclos : closureFor scope env = pure cl) (hcf : ∀ k acc, cellsFrom k scope.names acc = (x, k) :: acc) (hpc : ∀ h, pushCells h scope.names = h.push { cls := .type "cell", data := .cell none }) (hkind : scope.kind = .function)
    (hnames : ∀ y ∈ scope.names, y.2 = .local → scope.names.lookup y.1 = some .local) (hl : ∀ K C, (compEnvC scope ((x, K) :: cl) C env).kindOf x = some .cell)
    (h : wpAny (model prog w) A (eval iter env) (CSrcK prog w A h₀ L m env elt x scope cl (FinEG h₀ L m Q)) E s)
    (hs : ∀ x, foldedSetIterable iter env x = pure x := by intro _; rfl) :
    wpAny (model prog w) A (eval (.ListComp elt [⟨.Name x px, iter, [], 0⟩] scope pos) env) Q E s := by
  rw [eval_ListComp]
  refine wpAny_comprehension_free (use := none) rfl hs hclos hkind hnames (wpAny_mono h (fun xv s₁ h₁ => ?_) fun _ _ e => e)
  obtain ⟨r, t, u, v, n, news, R, rfl, hh, F, N, hr, hn, G, h0, turn, mono, fin⟩ := h₁
  have hn' : (n : Int) < 2 ^ 62 := by have : (2 : Nat) ^ 20 < 2 ^ 62 := by decide
                                      omega
  have hsl : n ≤ sizeLine := by rw [PySem.sizeLine_eq]; omega
  refine wpAny_pyIter_range hr (small_one (by omega) (by omega) (by omega) hn') ?_
  rw [show Builtin.Range.rangeSize 0 (n : Int) 1 = (n : Int) by rw [rangeSize_nat]; omega]
  generalize hH1 : s₁.heap.push { cls := .type "range_iterator", data := .fields #[rawInt 0, rawInt (n : Int), rawInt 1] } = H1
  have hI : H1.get? s₁.heap.objs.size = some { cls := .type "range_iterator", data := .fields #[rawInt 0, rawInt (n : Int), rawInt 1] } := by rw [← hH1]; exact Heap.get?_push_size _ rfl
  have z1 : H1.objs.size = s₁.heap.objs.size + 1 := by rw [← hH1, Heap.size_push]
  have up1 : ∀ b o, s₁.heap.get? b = some o → H1.get? b = some o := fun b o e => hH1 ▸ Heap.get?_push_of_some _ e
  refine wpAny_newObj_type ?_
  simp only [newFunctionEnv, Option.isSome_some, if_true]
  refine wpAny_bind (wpAny_alloc ?_)
  dsimp only
  generalize hH2 : H1.push { cls := .type "list", dict := none, data := .seq ([] : List Value).toArray } = H2
  have z2 : H2.objs.size = H1.objs.size + 1 := by rw [← hH2, Heap.size_push]
  refine wpAny_bind (wpAny_layCells _ (fun name kind cells => rfl) _ _ _ _ ?_)
  dsimp only
  rw [hcf, hpc]
  simp only [List.forIn_nil]
  refine wpAny_bind (wpAny_pure (wpAny_pure ?_))
  have fresh₀ : ∀ a, s₁.heap.objs.size ≤ a → h₀.get? a = none := fun a ha => Heap.get?_none_of_le (Nat.le_trans (Nat.le_of_lt (Nat.lt_of_le_of_lt F.above F.ns.lt)) ha)
  have hLlt : L < s₁.heap.objs.size := F.ns.lt
  generalize hH3 : H2.push { cls := .type "dict", data := .dict #[] } = H3
  have z3 : H3.objs.size = H2.objs.size + 1 := by rw [← hH3, Heap.size_push]
  generalize hH4 : H3.push { cls := .type "cell", data := .cell none } = H4
  have up2 : ∀ b o, H1.get? b = some o → H2.get? b = some o := fun b o e => hH2 ▸ Heap.get?_push_of_some _ e
  have up3 : ∀ b o, H2.get? b = some o → H3.get? b = some o := fun b o e => hH3 ▸ Heap.get?_push_of_some _ e
  have up4 : ∀ b o, H3.get? b = some o → H4.get? b = some o := fun b o e => hH4 ▸ Heap.get?_push_of_some _ e
  have old : ∀ b o, s₁.heap.get? b = some o → H4.get? b = some o := fun b o e => up4 _ _ (up3 _ _ (up2 _ _ (up1 _ _ e)))
  have hI4 : H4.get? s₁.heap.objs.size = some { cls := .type "range_iterator", data := .fields #[rawInt 0, rawInt (n : Int), rawInt 1] } := up4 _ _ (up3 _ _ (up2 _ _ hI))
  have hD4 : H4.get? H1.objs.size = some (lst []) := up4 _ _ (up3 _ _ (hH2 ▸ Heap.get?_push_size _ rfl))
  have hC4 : H4.get? H2.objs.size = some { cls := .type "dict", data := .dict #[] } := up4 _ _ (hH3 ▸ Heap.get?_push_size _ rfl)
  have hK4 : H4.get? H3.objs.size = some { cls := .type "cell", data := .cell none } := hH4 ▸ Heap.get?_push_size _ rfl
  have hnsC : H4.Ns H2.objs.size fun _ => none := by
    have : H3.Ns H2.objs.size fun _ => none := hH3 ▸ Heap.Ns.new _ _
    exact this.keeps up4
  have lD : s₁.heap.objs.size < H1.objs.size := by rw [z1]; exact Nat.lt_succ_self _
  have lC : H1.objs.size < H2.objs.size := by rw [z2]; exact Nat.lt_succ_self _
  have lK : H2.objs.size < H3.objs.size := by rw [z3]; exact Nat.lt_succ_self _
  have hN1 : ∀ p ∈ news, p.1 < s₁.heap.objs.size := fun p hp => Heap.lt_size (N p hp).1
  have W₀ := range_walks (prog := prog) (w := w) (A := A) (I := s₁.heap.objs.size) hh 0 n
  have hst0 : IsRangeIter H4 s₁.heap.objs.size (0 + ((0 : Nat) : Int) * 1) ((n : Int) - ((0 : Nat) : Int)) 1 := by
    show H4.get? _ = some _
    rw [hI4]; simp
  have oCe : ∀ ps, ({ cls := .type "dict", data := .dict #[] } : Obj) ≠ tabObj ps := by rintro ps ⟨⟩
  have hnC : NsObj ({ cls := .type "dict", data := .dict #[] } : Obj) (fun _ => none) := by
    obtain ⟨o, e, r⟩ := ns_obj hnsC
    rw [hC4] at e
    cases e; exact r
  generalize ({ cls := .type "dict", data := .dict #[] } : Obj) = oC at hC4 oCe hnC
  have loop : ∀ s₃ : Shared, s₃.heap = H4 → s₃.gens = s₁.gens → s₃.os = s₁.os →
      codeAny (model prog w) A (.compLoop (.ListComp elt [⟨.Name x px, iter, [], 0⟩] scope pos) 0 (.ref s₁.heap.objs.size) (.ref H1.objs.size) (compEnvC scope ((x, H3.objs.size) :: cl) H2.objs.size env)) (compPost (model prog w) A E none Q (.ref H1.objs.size) H2.objs.size) s₃ := by
    intro s₃ e3 e4 e5
    refine loop_G (s₁ := s₁) (oS := { cls := .type "cell", data := .cell none }) (news := (H2.objs.size, oC) :: news) (Src := fun nw => (H2.objs.size, oC) ∈ nw) (R := fun i ys nw => R i ys nw) (Slot := fun o => ∃ v, o.data = .cell v) (Var := fun v o => o.data = .cell (some v)) W₀ hsl (fun i h st => ⟨_, st, by rintro ps ⟨⟩⟩) (fun i h h' o nw st e e' k' N' hm' => range_st i h h' o nw st e e' k' N' trivial) ?_ ?_
      (Nat.ne_of_lt hLlt) (Ne.symm (Nat.ne_of_lt (Nat.lt_trans hLlt (Nat.lt_trans lD (Nat.lt_trans lC lK))))) (Ne.symm (Nat.ne_of_lt (Nat.lt_trans hLlt lD))) (fresh₀ _ (Nat.le_refl _)) (fresh₀ _ (Nat.le_of_lt (Nat.lt_trans lD (Nat.lt_trans lC lK)))) (fresh₀ _ (Nat.le_of_lt lD))
      (Nat.ne_of_lt (Nat.lt_trans lD (Nat.lt_trans lC lK))) (Nat.ne_of_lt lD) (Ne.symm (Nat.ne_of_lt (Nat.lt_trans lC lK))) (slot_cell hkind (hl _ _)) (by rw [e3]; exact hst0) (by rw [e3]; exact F.keeps old) (fun p hp => ?_) ⟨none, rfl⟩ (fun p hp => ?_) List.mem_cons_self (by rw [e4]; exact G) e5 (mono _ _ fun p hp => Nat.ne_of_lt (Nat.lt_trans (hN1 p hp) (Nat.lt_trans lD lC)))
      (fun i v oI oS ys nw s' E' hi hv hR hm' _ hvar F' N' off hnt G' hos => ?_) (fun ys nw oS s' hR hm' F' N' hsl off G' hos => ?_)
    · intro hm'; exact absurd (List.mem_singleton.mp hm') (Ne.symm (Nat.ne_of_lt (Nat.lt_trans lD (Nat.lt_trans lC lK))))
    · intro hm'; exact absurd (List.mem_singleton.mp hm') (Ne.symm (Nat.ne_of_lt lD))
    · rw [e3]
      rcases List.mem_cons.mp hp with rfl | hp
      · exact ⟨hK4, Ne.symm (Nat.ne_of_lt (Nat.lt_trans hLlt (Nat.lt_trans lD (Nat.lt_trans lC lK)))), fresh₀ _ (Nat.le_of_lt (Nat.lt_trans lD (Nat.lt_trans lC lK)))⟩
      rcases List.mem_cons.mp hp with rfl | hp
      · exact ⟨hD4, Ne.symm (Nat.ne_of_lt (Nat.lt_trans hLlt lD)), fresh₀ _ (Nat.le_of_lt lD)⟩
      rcases List.mem_cons.mp hp with rfl | hp
      · exact ⟨hC4, Ne.symm (Nat.ne_of_lt (Nat.lt_trans hLlt (Nat.lt_trans lD lC))), fresh₀ _ (Nat.le_of_lt (Nat.lt_trans lD lC))⟩
      · exact ⟨old _ _ (N p hp).1, (N p hp).2⟩
    · rcases List.mem_cons.mp hp with rfl | hp
      · exact ⟨Ne.symm (Nat.ne_of_lt (Nat.lt_trans lD lC)), Nat.ne_of_lt lK, Ne.symm (Nat.ne_of_lt lC)⟩
      · have b := hN1 p hp
        exact ⟨Nat.ne_of_lt b, Nat.ne_of_lt (Nat.lt_trans b (Nat.lt_trans lD (Nat.lt_trans lC lK))), Nat.ne_of_lt (Nat.lt_trans b lD)⟩
    · obtain ⟨tv, rfl⟩ := hv
      rw [show (0 : Int) + (i : Int) = (i : Int) by omega] at hvar
      exact turn i tv _ oI _ oS _ oC _ ys nw s' E' hi hR hm' hvar F' N' off hnt oCe G' hos
    · have zC := N' _ (List.mem_cons_of_mem _ (List.mem_cons_of_mem _ hm'))
      refine ⟨_, hnC.ns zC.1, fun h'' hs'' => fin ys nw H2.objs.size hR (fun p hp => Nat.ne_of_lt (Nat.lt_trans (hN1 p hp) (Nat.lt_trans lD lC))) H1.objs.size _ (F'.change hs'' zC.2.1 zC.2.2) (fun p hp => ?_) (fun p hp => (off p (of_offP hp).1).2.2) G' hos⟩
      rcases List.mem_cons.mp hp with rfl | hp
      · have z := N' (H1.objs.size, lst ys) (List.mem_cons_of_mem _ List.mem_cons_self)
        exact ⟨hs''.extBut _ _ (Nat.ne_of_lt lC) z.1, z.2⟩
      · have q := of_offP hp
        have z := N' p (List.mem_cons_of_mem _ (List.mem_cons_of_mem _ q.1))
        exact ⟨hs''.extBut _ _ q.2 z.1, z.2⟩
  exact codeAny_compStart_list (loop _ rfl rfl rfl) (W₀.self 0 _ _ _ hst0 (loop _ rfl rfl rfl))
theorem CSrcK.of {elt : Expr} {x : Str} {scope : Scope} {cl : List (Str × Addr)} {Fin : Shared → List Value → Led → Prop} {s₁ : Shared} {r : Addr} {t u v : Tok} {n : Nat} {news : Led} (R : Led → Nat → List Value → Led → Prop) (hh : A.handled = none) (F : Fr h₀ L s₁.heap m) (N : News h₀ L s₁.heap news) (hr : IsRange s₁.heap r 0 (n : Int) 1 t u v) (hn : n ≤ 2 ^ 20) (G : AllBare s₁.gens) (h0 : R news 0 [] news)
    (turn : ∀ i t I oI K oK C oC D ys nw (s' : Shared) (E' : Value → Shared → Prop), i < n → R news i ys nw → (C, oC) ∈ nw → oK.data = .cell (some (.int (i : Int) t)) → Fr h₀ L s'.heap m → News h₀ L s'.heap ((I, oI) :: (K, oK) :: (D, lst ys) :: nw) → (∀ p ∈ nw, p.1 ≠ I ∧ p.1 ≠ K ∧ p.1 ≠ D) → (∀ ps, oI ≠ tabObj ps) → (∀ ps, oC ≠ tabObj ps) → AllBare s'.gens → s'.os = s₁.os →
      wpAny (model prog w) A (eval elt (compEnvC scope ((x, K) :: cl) C env)) (TEnd h₀ L m s₁ I K D oI oK (lst ys) (fun y nw' => (C, oC) ∈ nw' ∧ R news (i + 1) (ys ++ [y]) nw')) E' s')
    (mono : ∀ C oC, (∀ p ∈ news, p.1 ≠ C) → R news 0 [] ((C, oC) :: news))
    (fin : ∀ ys nw C, R news n ys nw → (∀ p ∈ news, p.1 ≠ C) → Fin s₁ ys (offP C nw)) : CSrcK prog w A h₀ L m env elt x scope cl Fin (.ref r) s₁ :=
  .mk r t u v n news (R news) rfl hh F N hr hn G h0 turn mono fin
end
end Mine05
end
section
namespace Mine05
open LCg
section
variable {prog : Program} {w : World} {A : Around} {E : Value → Shared → Prop} {s : Shared} {h₀ : Heap} {L : Addr} {m : Str → Option Value}
/-- where an addition of a sum over objects ends -/
inductive SEnd (h₀ : Heap) (L : Addr) (m : Str → Option Value) (s₁ : Shared) (I S : Addr) (oI oS : Obj) (R : Value → Led → Prop) (y : Value) (s₂ : Shared) : Prop
  | mk (nw all : Led) (F : Fr h₀ L s₂.heap m) (N : News h₀ L s₂.heap all) (hI : (I, oI) ∈ all) (hS : (S, oS) ∈ all) (hs : Sub nw all) (off : ∀ p ∈ nw, p.1 ≠ I ∧ p.1 ≠ S) (G : AllBare s₂.gens) (hos : s₂.os = s₁.os) (r : R y nw)
theorem sum_loop {l I S : Addr} {its : List Value} {k : Nat} {Acc : Nat → Value → Led → Prop} {Q : Result → Shared → Prop} {s₁ : Shared} (hh : A.handled = none) (hIl : I ≠ l) (hIS : I ≠ S) (hIL : L ≠ I) (hSL : S ≠ L) (hI₀ : h₀.get? I = none) (hS₀ : h₀.get? S = none) (hrefs : ∀ v ∈ its, ∃ a, v = .ref a)
    (step : ∀ i v acc oI oS nw (s' : Shared) (E' : Value → Shared → Prop), its[i]? = some v → Acc i acc nw → (l, W.listOf its.toArray k) ∈ nw → oI.cls = .type "list_iterator" → (∃ c, oS.data = .seq #[acc] c) → Fr h₀ L s'.heap m → News h₀ L s'.heap ((I, oI) :: (S, oS) :: nw) → (∀ p ∈ nw, p.1 ≠ I ∧ p.1 ≠ S) → AllBare s'.gens → s'.os = s₁.os →
      wpAny (model prog w) A.in1 (binaryOp .Add acc v) (SEnd h₀ L m s₁ I S oI oS (fun r nw' => (l, W.listOf its.toArray k) ∈ nw' ∧ (∃ a, r = .ref a) ∧ Acc (i + 1) r nw')) E' s')
    (fin : ∀ r nw (s' : Shared), Acc its.length r nw → Fr h₀ L s'.heap m → News h₀ L s'.heap nw → AllBare s'.gens → s'.os = s₁.os → Q (.ok (.ret r)) s') :
    ∀ (j i : Nat) (acc : Value) (st : Int) (nw : Led) (c : Nat) (s : Shared), its.length - i = j → i ≤ its.length → ((st = 0 ∧ ∃ t, acc = .int 0 t) ∨ (st = 2 ∧ ∃ a, acc = .ref a)) → Acc i acc nw → (l, W.listOf its.toArray k) ∈ nw → Fr h₀ L s.heap m → News h₀ L s.heap nw → (∀ p ∈ nw, p.1 ≠ I ∧ p.1 ≠ S) → AllBare s.gens → s.os = s₁.os →
      s.heap.IsListIter I l i → s.heap.get? S = some { cls := .type "list", dict := none, data := .seq #[acc] c, slots := #[] } →
      codeAny (model prog w) A (.builtin "sum.loop" ⟨[.ref I, .ref S, rawInt st, rawInt 0], []⟩) Q s := by
  have W := Walks.list (prog := prog) (w := w) (A := A.in1) hh I l (Ne.symm hIl) its.toArray
  have hsz : its.toArray.size = its.length := List.size_toArray ..
  intro j
  induction j with
  | zero =>
    intro i acc st nw c s hj hi hst hA hm F N off G hos hit hS
    have hin : i = its.length := by omega
    subst hin
    refine codeAny_builtin PySem.F.entry_sum_loop ?_
    rw [Around.under_plainId PySem.F.plain_sum_loop _]
    show wpAny _ A.in1 (seqItems? (.ref S) >>= _) _ _ s
    refine wpAny_bind (wpAny_seqItems hS rfl ?_)
    show wpAny _ A.in1 (tryCatch (pyNext (.ref I)) _ >>= _) _ _ s
    have hl := News.isList N hm
    refine wpAny_bind (wpAny_tryCatch (W.done s _ _ ⟨hit, hl⟩ fun h' tk hk => ?_))
    have hk' : ∀ b o, b ≠ I → s.heap.get? b = some o → h'.get? b = some o := fun b o hb e => hk b o (by simpa using hb) e
    have F' : Fr h₀ L h' m := fr_but F hk hIL hI₀
    have N' : News h₀ L h' nw := fun p hp => ⟨hk' _ _ (off p hp).1 (N p hp).1, (N p hp).2⟩
    rcases hst with ⟨rfl, t, rfl⟩ | ⟨rfl, a, rfl⟩
    · exact wpAny_pure (fin _ nw _ hA F' N' G hos)
    · exact wpAny_pure (fin _ nw _ hA F' N' G hos)
  | succ j ih =>
    intro i acc st nw c s hj hi hst hA hm F N off G hos hit hS
    have hlt : i < its.length := by omega
    refine codeAny_builtin PySem.F.entry_sum_loop ?_
    rw [Around.under_plainId PySem.F.plain_sum_loop _]
    show wpAny _ A.in1 (seqItems? (.ref S) >>= _) _ _ s
    refine wpAny_bind (wpAny_seqItems hS rfl ?_)
    show wpAny _ A.in1 (tryCatch (pyNext (.ref I)) _ >>= _) _ _ s
    have hl := News.isList N hm
    refine wpAny_bind (wpAny_tryCatch (W.item i s _ _ (by rw [hsz]; exact hlt) ⟨hit, hl⟩ fun v h' tk hv st' hk => ?_))
    have hk' : ∀ b o, b ≠ I → s.heap.get? b = some o → h'.get? b = some o := fun b o hb e => hk b o (by simpa using hb) e
    have F' : Fr h₀ L h' m := fr_but F hk hIL hI₀
    have N' : News h₀ L h' nw := fun p hp => ⟨hk' _ _ (off p hp).1 (N p hp).1, (N p hp).2⟩
    have hv' : its[i]? = some v := by simpa using hv
    obtain ⟨b, rfl⟩ := hrefs v (List.mem_of_getElem? hv')
    have hS' := hk' _ _ (Ne.symm hIS) hS
    obtain ⟨oI, heI, hcI, hdI⟩ := st'.1
    have N9 : News h₀ L h' ((I, oI) :: (S, { cls := .type "list", dict := none, data := .seq #[acc] c, slots := #[] }) :: nw) := fun p hp => by
      rcases List.mem_cons.mp hp with rfl | hp
      · exact ⟨heI, Ne.symm hIL, hI₀⟩
      rcases List.mem_cons.mp hp with rfl | hp
      · exact ⟨hS', hSL, hS₀⟩
      · exact N' p hp
    have key : ∀ (r : Value) (s₂ : Shared) (hS₂ : ∃ o n, o = ({ cls := .type "list", dict := none, data := .seq #[acc] n, slots := #[] } : Obj) ∧ s₂.heap.get? S = some o), SEnd h₀ L m s₁ I S oI { cls := .type "list", dict := none, data := .seq #[acc] c, slots := #[] } (fun r nw' => (l, PySem.W.listOf its.toArray k) ∈ nw' ∧ (∃ a, r = .ref a) ∧ Acc (i + 1) r nw') r s₂ →
        wpAny (model prog w) A.in1 (updateSeq S (fun _ => #[r]) >>= fun _ => letGo [acc, .ref b] >>= fun _ => updateSeq S (fun _ => #[r]) >>= fun _ => (again (.builtin "sum.loop" ⟨[.ref I, .ref S, rawInt 2, rawInt 0], []⟩) : Sem Fin)) (fun fin s' => match fin with | .done f => Q (.ok f) s' | .again c' => c'.quiet = true ∧ codeAny (model prog w) A c' Q s') (fun e s' => Q (.error e) s') s₂ := by
      intro r s₂ _ h₂
      obtain ⟨nw₂, all₂, F₂, N₂, hI₂, hS₂, sub₂, off₂, G₂, hos₂, hm₂, ⟨a', rfl⟩, hA₂⟩ := h₂
      refine wpAny_bind (wpAny_updateSeq (N₂ _ hS₂).1 rfl ?_)
      have hS3 := Heap.get?_update_self (Obj.mapSeq fun _ => #[Value.ref a']) (N₂ _ hS₂).1 rfl
      have sb1 : Heap.SameBut S s₂.heap (s₂.heap.update S (Obj.mapSeq fun _ => #[Value.ref a'])) := Heap.SameBut.update ..
      refine wpAny_bind (wpAny_letGo ?_)
      (try dsimp only)
      generalize s₂.heap.update S (Obj.mapSeq fun _ => #[Value.ref a']) = H1 at hS3 sb1 ⊢
      refine wpAny_bind (wpAny_updateSeq hS3 rfl ?_)
      have hS4 := Heap.get?_update_self (Obj.mapSeq fun _ => #[Value.ref a']) hS3 rfl
      have sb2 : Heap.SameBut S H1 (H1.update S (Obj.mapSeq fun _ => #[Value.ref a'])) := Heap.SameBut.update ..
      (try dsimp only)
      generalize H1.update S (Obj.mapSeq fun _ => #[Value.ref a']) = H2 at hS4 sb2 ⊢
      have up : ∀ b o, b ≠ S → s₂.heap.get? b = some o → H2.get? b = some o := fun b o hb e => sb2.extBut b o hb (sb1.extBut b o hb e)
      refine wpAny_pure ⟨plainId_quiet PySem.F.plain_sum_loop _, ih (i + 1) (.ref a') 2 nw₂ _ _ (by omega) hlt (.inr ⟨rfl, a', rfl⟩) hA₂ hm₂ ((F₂.change sb1 hSL hS₀).change sb2 hSL hS₀) (fun p hp => ?_) off₂ G₂ hos₂ ⟨oI, up _ _ hIS (N₂ _ hI₂).1, hcI, hdI⟩ hS4⟩
      have z := N₂ p (sub₂ p hp)
      exact ⟨up _ _ (off₂ p hp).2 z.1, z.2⟩
    rcases hst with ⟨rfl, t, rfl⟩ | ⟨rfl, a, rfl⟩
    · show wpAny _ A.in1 (rule _ >>= _) _ _ _
      refine wpAny_bind (wpAny_rule ?_)
      refine wpAny_bind (wpAny_attempt (wpAny_holding (wpAny_mono (step i _ _ oI _ nw _ (fun _ _ => False) hv' hA hm hcI ⟨c, rfl⟩ F' N9 off G hos) (fun r s₂ h₂ => ?_) fun _ _ e => e.elim)))
      obtain ⟨nw₂, all₂, F₂, N₂, hI₂, hS₂, sub₂, off₂, G₂, hos₂, hm₂, ⟨a', rfl⟩, hA₂⟩ := h₂
      exact key (.ref a') s₂ ⟨_, c, rfl, (N₂ _ hS₂).1⟩ ⟨nw₂, all₂, F₂, N₂, hI₂, hS₂, sub₂, off₂, G₂, hos₂, hm₂, ⟨a', rfl⟩, hA₂⟩
    · show wpAny _ A.in1 ((holding [Value.ref b] (binaryOp .Add (.ref a) (.ref b))).attempt >>= _) _ _ _
      refine wpAny_bind (wpAny_attempt (wpAny_holding (wpAny_mono (step i _ _ oI _ nw _ (fun _ _ => False) hv' hA hm hcI ⟨c, rfl⟩ F' N9 off G hos) (fun r s₂ h₂ => ?_) fun _ _ e => e.elim)))
      obtain ⟨nw₂, all₂, F₂, N₂, hI₂, hS₂, sub₂, off₂, G₂, hos₂, hm₂, ⟨a', rfl⟩, hA₂⟩ := h₂
      exact key (.ref a') s₂ ⟨_, c, rfl, (N₂ _ hS₂).1⟩ ⟨nw₂, all₂, F₂, N₂, hI₂, hS₂, sub₂, off₂, G₂, hos₂, hm₂, ⟨a', rfl⟩, hA₂⟩
theorem sum_objs {l : Addr} {its : List Value} {k : Nat} {news : Led} {Acc : Nat → Value → Led → Prop} {Q : Value → Shared → Prop} (hh : A.handled = none) (F : Fr h₀ L s.heap m) (N : News h₀ L s.heap news) (hm : (l, PySem.W.listOf its.toArray k) ∈ news) (hrefs : ∀ v ∈ its, ∃ a, v = .ref a) (G : AllBare s.gens) (h0 : ∀ t, Acc 0 (.int 0 t) news)
    (step : ∀ i v acc I oI S oS nw (s' : Shared) (E' : Value → Shared → Prop), its[i]? = some v → Acc i acc nw → (l, PySem.W.listOf its.toArray k) ∈ nw → oI.cls = .type "list_iterator" → (∃ c, oS.data = .seq #[acc] c) → Fr h₀ L s'.heap m → News h₀ L s'.heap ((I, oI) :: (S, oS) :: nw) → (∀ p ∈ nw, p.1 ≠ I ∧ p.1 ≠ S) → AllBare s'.gens → s'.os = s.os →
      wpAny (model prog w) A.in1 (binaryOp .Add acc v) (SEnd h₀ L m s I S oI oS (fun r nw' => (l, PySem.W.listOf its.toArray k) ∈ nw' ∧ (∃ a, r = .ref a) ∧ Acc (i + 1) r nw')) E' s')
    (fin : ∀ r nw (s' : Shared), Acc its.length r nw → Fr h₀ L s'.heap m → News h₀ L s'.heap nw → AllBare s'.gens → s'.os = s.os → Q r s') :
    wpAny (model prog w) A (call (.builtin "sum") [.ref l]) Q E s := by
  have hl := News.isList N hm
  have hlt : l < s.heap.objs.size := Heap.lt_size (N _ hm).1
  refine call_function_tree PySem.F.kind_sum PySem.F.plain_sum PySem.F.entry_sum (PySem.F.args_sum1 _) ?_
  unfold Builtin.«sum»
  simp only [List.length_cons, List.length_nil]
  rw [if_neg (by decide)]
  refine wpAny_bind (wpAny_of_eq (show Builtin.Builtins.bindParams "sum" ["start"] 0 { } = pure [none] from rfl) ?_)
  refine wpAny_bind (wpAny_pyIter_list hl ?_)
  generalize hH1 : s.heap.push { cls := .type "list_iterator", data := .fields #[.ref l, .int 0 0] } = H1
  have z1 : H1.objs.size = s.heap.objs.size + 1 := by rw [← hH1, Heap.size_push]
  have up1 : ∀ b o, s.heap.get? b = some o → H1.get? b = some o := fun b o e => hH1 ▸ Heap.get?_push_of_some _ e
  have hI : H1.get? s.heap.objs.size = some { cls := .type "list_iterator", data := .fields #[.ref l, .int 0 0] } := by rw [← hH1]; exact Heap.get?_push_size _ rfl
  refine wpAny_bind (wpAny_mkInt ?_)
  refine wpAny_bind (wpAny_pure ?_)
  simp only [List.forIn_cons, List.forIn_nil]
  refine wpAny_bind (wpAny_bind (wpAny_bind (wpAny_isInstance (T := "int") (b := false) (typeIs_int _ _ _) PySem.sub_int_str ?_)))
  simp only [Bool.false_eq_true, if_false]
  refine wpAny_pure (wpAny_bind (wpAny_bind (wpAny_isInstance (T := "int") (b := false) (typeIs_int _ _ _) PySem.sub_int_bytes ?_)))
  simp only [Bool.false_eq_true, if_false]
  refine wpAny_pure (wpAny_bind (wpAny_bind (wpAny_isInstance (T := "int") (b := false) (typeIs_int _ _ _) PySem.sub_int_bytearray ?_)))
  simp only [Bool.false_eq_true, if_false]
  refine wpAny_pure (wpAny_pure ?_)
  refine wpAny_bind (wpAny_newObj_type ?_)
  dsimp only
  have fresh₀ : ∀ a, s.heap.objs.size ≤ a → h₀.get? a = none := fun a ha => Heap.get?_none_of_le (Nat.le_trans (Nat.le_of_lt (Nat.lt_of_le_of_lt F.above F.ns.lt)) ha)
  have hLlt : L < s.heap.objs.size := F.ns.lt
  have lS : s.heap.objs.size < H1.objs.size := by rw [z1]; exact Nat.lt_succ_self _
  have hN1 : ∀ p ∈ news, p.1 < s.heap.objs.size := fun p hp => Heap.lt_size (N p hp).1
  refine wpAny_pure ⟨plainId_quiet PySem.F.plain_sum_loop _, sum_loop (s₁ := s) (l := l) (I := s.heap.objs.size) (S := H1.objs.size) (k := k) (Acc := Acc) hh (Ne.symm (Nat.ne_of_lt hlt)) (Nat.ne_of_lt lS) (Nat.ne_of_lt hLlt) (Ne.symm (Nat.ne_of_lt (Nat.lt_trans hLlt lS))) (fresh₀ _ (Nat.le_refl _)) (fresh₀ _ (Nat.le_of_lt lS)) hrefs
    (fun i v acc oI oS nw s' E' hv hA hm' c1 c2 F' N' off G' hos => step i v acc _ oI _ oS nw s' E' hv hA hm' c1 c2 F' N' off G' hos) (fun r nw s' hA F' N' G' hos => fin r nw s' hA F' N' G' hos) its.length 0 _ 0 news _ _ (by omega) (Nat.zero_le _) (.inl ⟨rfl, _, rfl⟩) (h0 _) hm (F.keeps fun b o e => Heap.get?_push_of_some _ (up1 b o e))
    (fun p hp => ⟨Heap.get?_push_of_some _ (up1 _ _ (N p hp).1), (N p hp).2⟩) (fun p hp => ⟨Nat.ne_of_lt (hN1 p hp), Nat.ne_of_lt (Nat.lt_trans (hN1 p hp) lS)⟩) G rfl ⟨_, Heap.get?_push_of_some _ hI, rfl, rfl⟩ (Heap.get?_push_size _ rfl)⟩
end
end Mine05
end
section
namespace Mine05
open LCg
section
variable {prog : Program} {w : World} {A : Around} {E : Value → Shared → Prop} {s : Shared} {h₀ : Heap} {env : Env}
/-- where a turn of a loop ends; the generators' states may have grown -/
inductive FEnd (h₀ : Heap) (L : Addr) (s₁ : Shared) (I : Addr) (oI : Obj) (R : (Str → Option Value) → Led → Prop) (f : Flow) (s₂ : Shared) : Prop
  | mk (m : Str → Option Value) (nw all : Led) (hf : f = .next) (F : Fr h₀ L s₂.heap m) (N : News h₀ L s₂.heap all) (hI : (I, oI) ∈ all) (hs : Sub nw all) (off : ∀ p ∈ nw, p.1 ≠ I) (G : AllBare s₂.gens) (hos : s₂.os = s₁.os) (r : R m nw)
/-- what range(n) hands over to a loop whose turns may make generators -/
inductive FSrcG (prog : Program) (w : World) (A : Around) (h₀ : Heap) (env : Env) (x : Str) (body : List Stmt) (Q : Flow → Shared → Prop) (xv : Value) (s₁ : Shared) : Prop
  | mk (r : Addr) (t u v : Tok) (n : Nat) (news : Led) (m : Str → Option Value) (R : Nat → (Str → Option Value) → Led → Prop) (e : xv = .ref r) (hh : A.handled = none) (F : Fr h₀ env.locals s₁.heap m) (N : News h₀ env.locals s₁.heap news) (hr : IsRange s₁.heap r 0 (n : Int) 1 t u v) (hn : n ≤ 2 ^ 20) (G : AllBare s₁.gens) (h0 : R 0 m news)
    (turn : ∀ i t I oI m₁ nw (s' : Shared) (E' : Value → Shared → Prop), i < n → R i m₁ nw → Fr h₀ env.locals s'.heap (fun y => if y = x then some (.int (i : Int) t) else m₁ y) → News h₀ env.locals s'.heap ((I, oI) :: nw) → (∀ p ∈ nw, p.1 ≠ I) → (∀ ps, oI ≠ tabObj ps) → (∀ v, oI.data ≠ .cell v) → oI.cls = .type "range_iterator" → (∀ p ∈ news, p.1 ≠ I) → AllBare s'.gens → s'.os = s₁.os →
      wpAny (model prog w) A (execs body env) (FEnd h₀ env.locals s₁ I oI (R (i + 1))) E' s')
    (fin : ∀ m₁ nw (s' : Shared), R n m₁ nw → Fr h₀ env.locals s'.heap m₁ → News h₀ env.locals s'.heap nw → AllBare s'.gens → s'.os = s₁.os → Q .next s')
theorem FSrcG.of {x : Str} {body : List Stmt} {Q : Flow → Shared → Prop} {s₁ : Shared} {r : Addr} {t u v : Tok} {n : Nat} {news : Led} {m : Str → Option Value} (R : (Str → Option Value) → Led → Nat → (Str → Option Value) → Led → Prop) (hh : A.handled = none) (F : Fr h₀ env.locals s₁.heap m) (N : News h₀ env.locals s₁.heap news) (hr : IsRange s₁.heap r 0 (n : Int) 1 t u v) (hn : n ≤ 2 ^ 20) (G : AllBare s₁.gens) (h0 : R m news 0 m news)
    (turn : ∀ i t I oI m₁ nw (s' : Shared) (E' : Value → Shared → Prop), i < n → R m news i m₁ nw → Fr h₀ env.locals s'.heap (fun y => if y = x then some (.int (i : Int) t) else m₁ y) → News h₀ env.locals s'.heap ((I, oI) :: nw) → (∀ p ∈ nw, p.1 ≠ I) → (∀ ps, oI ≠ tabObj ps) → (∀ v, oI.data ≠ .cell v) → oI.cls = .type "range_iterator" → (∀ p ∈ news, p.1 ≠ I) → AllBare s'.gens → s'.os = s₁.os →
      wpAny (model prog w) A (execs body env) (FEnd h₀ env.locals s₁ I oI (R m news (i + 1))) E' s')
    (fin : ∀ m₁ nw (s' : Shared), R m news n m₁ nw → Fr h₀ env.locals s'.heap m₁ → News h₀ env.locals s'.heap nw → AllBare s'.gens → s'.os = s₁.os → Q .next s') : FSrcG prog w A h₀ env x body Q (.ref r) s₁ :=
  .mk r t u v n news m (R m news) rfl hh F N hr hn G h0 turn fin
/-- what stands at the head of each turn -/
inductive FInv (h₀ : Heap) (L : Addr) (s₁ : Shared) (n : Nat) (R : Nat → (Str → Option Value) → Led → Prop) (k : Nat) (s' : Shared) : Prop
  | mk (i : Nat) (m' : Str → Option Value) (nw : Led) (hi : i ≤ n) (ek : k = n + 1 - i) (hit : IsRangeIter s'.heap s₁.heap.objs.size (0 + (i : Nat) * 1) ((n : Int) - (i : Nat)) 1) (F : Fr h₀ L s'.heap m') (N : News h₀ L s'.heap nw) (off : ∀ p ∈ nw, p.1 ≠ s₁.heap.objs.size) (G : AllBare s'.gens) (hos : s'.os = s₁.os) (hR : R i m' nw)
theorem For_G {x : Str} {px pos : Pos} {iter : Expr} {body : List Stmt} {Q : Flow → Shared → Prop} (hx : env.kindOf x = some .local)
    (hp : (env.scope.kind == .class || (env.scope.kind == .module && env.locals != env.globals)) = false)
    (h : wpAny (model prog w) A (eval iter env) (FSrcG prog w A h₀ env x body Q) E s)
    (hs : ∀ x, foldedSetIterable iter env x = pure x := by intro _; rfl) :
    wpAny (model prog w) A (exec (.For (.Name x px) iter body [] pos) env) Q E s := by
  refine wpAny_For (wpAny_mono h (fun xv s₁ h₁ => ?_) fun _ _ e => e) hs
  obtain ⟨r, t, u, v, n, news, m, R, rfl, hh, F, N, hr, hn, G, h0, turn, fin⟩ := h₁
  have hn' : (n : Int) < 2 ^ 62 := by have : (2 : Nat) ^ 20 < 2 ^ 62 := by decide
                                      omega
  refine wpAny_pyIter_range hr (small_one (by omega) (by omega) (by omega) hn') ?_
  rw [show Builtin.Range.rangeSize 0 (n : Int) 1 = (n : Int) by rw [rangeSize_nat]; omega]
  generalize hH1 : s₁.heap.push { cls := .type "range_iterator", data := .fields #[rawInt 0, rawInt (n : Int), rawInt 1] } = H1
  have hI : H1.get? s₁.heap.objs.size = some { cls := .type "range_iterator", data := .fields #[rawInt 0, rawInt (n : Int), rawInt 1] } := by rw [← hH1]; exact Heap.get?_push_size _ rfl
  have up1 : ∀ b o, s₁.heap.get? b = some o → H1.get? b = some o := fun b o e => hH1 ▸ Heap.get?_push_of_some _ e
  have hLlt : env.locals < s₁.heap.objs.size := F.ns.lt
  have hI₀ : h₀.get? s₁.heap.objs.size = none := Heap.get?_none_of_le (Nat.le_of_lt (Nat.lt_of_le_of_lt F.above F.ns.lt))
  have hN1 : ∀ p ∈ news, p.1 ≠ s₁.heap.objs.size := fun p hp => Nat.ne_of_lt (Heap.lt_size (N p hp).1)
  have hIL : env.locals ≠ s₁.heap.objs.size := Nat.ne_of_lt hLlt
  have W := range_walks (prog := prog) (w := w) (A := A) (I := s₁.heap.objs.size) hh 0 n
  refine codeAny_forLoop_any
    (FInv h₀ env.locals s₁ n R) ?_ (n + 1)
    ⟨0, m, news, Nat.zero_le _, rfl, by show H1.get? _ = some _; rw [hI]; simp, F.keeps up1, fun p hp => ⟨up1 _ _ (N p hp).1, (N p hp).2⟩, hN1, G, rfl, h0⟩
  rintro k s' ⟨i, m', nw, hi, rfl, hst', F', N', off', G', hos', R'⟩
  by_cases hlt : i < n
  · refine W.item i _ _ _ hlt hst' fun v h₂ tk₂ hPv hst₂ hk₂ => ?_
    obtain ⟨tv, rfl⟩ := hPv
    rw [show (0 : Int) + (i : Int) = (i : Int) by omega]
    have hk₂' : ∀ b o, b ≠ s₁.heap.objs.size → s'.heap.get? b = some o → h₂.get? b = some o := fun b o hb e => hk₂ b o (by simpa using hb) e
    refine wpAny_pure ?_
    have F₂ : Fr h₀ env.locals h₂ m' := fr_but F' hk₂ hIL hI₀
    refine wpAny_assign_Name (wpAny_storeName_local hx F₂.ns (fun h₃ hn₃ hs₃ => ?_) hp)
    have hL₀ : h₀.get? env.locals = none := Heap.get?_none_of_le F.above
    have F₃ : Fr h₀ env.locals h₃ (fun y => if y = x then some (.int (i : Int) tv) else m' y) := ⟨hn₃, fun b o e => hs₃.extBut b o (fun q => by rw [q, hL₀] at e; cases e) (F₂.keep b o e), F₂.above⟩
    have hst2' : h₂.get? s₁.heap.objs.size = some _ := hst₂
    have hI₃ := hs₃.extBut _ _ (Ne.symm hIL) hst2'
    have N₃ : News h₀ env.locals h₃ ((s₁.heap.objs.size, _) :: nw) := fun p hp => by
      rcases List.mem_cons.mp hp with rfl | hp
      · exact ⟨hI₃, Ne.symm hIL, hI₀⟩
      · have z := N' p hp
        exact ⟨hs₃.extBut _ _ z.2.1 (hk₂' _ _ (off' p hp) z.1), z.2⟩
    refine wpAny_mono (turn i tv _ _ m' nw _ _ hlt R' F₃ N₃ off' (by rintro ps ⟨⟩) (by rintro v ⟨⟩) rfl hN1 G' hos') (fun f s₄ h₄ => ?_) fun _ _ e => e
    obtain ⟨m₄, nw₄, all₄, rfl, F₄, N₄, hI₄, sub₄, off₄, G₄, hos₄, R₄⟩ := h₄
    exact ⟨n + 1 - (i + 1), by omega, i + 1, m₄, nw₄, hlt, rfl, (N₄ _ hI₄).1, F₄, fun p hp => N₄ p (sub₄ p hp), off₄, G₄, hos₄, R₄⟩
  · obtain rfl : i = n := Nat.le_antisymm hi (Nat.not_lt.mp hlt)
    refine W.done _ _ _ hst' fun h₂ tk₂ hk₂ => wpAny_execs_nil ?_
    exact fin m' nw _ R' (fr_but F' hk₂ hIL hI₀) (fun p hp => ⟨hk₂ _ _ (by simpa using off' p hp) (N' p hp).1, (N' p hp).2⟩) G' hos'
end
end Mine05
end
section
namespace Mine05
/-- a statement of a loop's body -/
def loopStmt? (p : Program) (i j : Nat) : Option Stmt := match lawStmt? p i with
  | some (.For _ _ body _ _) => body[j]?
  | _ => none
def loopBody? (p : Program) (i : Nat) : Option (List Stmt) := match lawStmt? p i with
  | some (.For _ _ body _ _) => some body
  | _ => none
/-- the k-th if of a chain, its test and its body -/
def ifAt? : Nat → Stmt → Option Stmt
  | 0, st => some st
  | k + 1, .If _ _ [st] _ => ifAt? k st
  | _, _ => none
def ifBody? (k : Nat) (st : Stmt) : Option (List Stmt) := match ifAt? k st with
  | some (.If _ body _ _) => some body
  | _ => none
def ifElse? (k : Nat) (st : Stmt) : Option (List Stmt) := match ifAt? k st with
  | some (.If _ _ body _) => some body
  | _ => none
/-- a cell of the law's frame and what it holds -/
inductive Cell (nw : Led) (c : Addr) (v : Option Value) : Prop
  | mk (o : Obj) (hm : (c, o) ∈ nw) (hd : o.data = .cell v)
/-- the objects that are neither a table nor a cell are kept -/
def K5 (a b : Led) : Prop := (∀ p ∈ a, (∀ ps, p.2 ≠ tabObj ps) → (∀ v, p.2.data ≠ .cell v) → p ∈ b) ∧ ∀ c v, Cell a c v → ∃ v', Cell b c v'
/-- the cells but some are kept -/
def KC (cs : List Addr) (a b : Led) : Prop := ∀ c v, c ∉ cs → Cell a c v → Cell b c v
inductive Tab (P : Addr) (nw : Led) : Prop
  | mk (ps : Array Value) (hm : (P, tabObj ps) ∈ nw) (ht : TriplesOk ps.toList)
theorem K5.of_sub {a b : Led} (h : Sub a b) : K5 a b := ⟨fun p hp _ _ => h p hp, fun _ v ⟨o, hm, hd⟩ => ⟨v, o, h _ hm, hd⟩⟩
theorem KC.of_sub {cs : List Addr} {a b : Led} (h : Sub a b) : KC cs a b := fun c v _ ⟨o, hm, hd⟩ => ⟨o, h _ hm, hd⟩
theorem Tab.mono {P : Addr} {a b : Led} (h : Tab P a) (s : Sub a b) : Tab P b := let ⟨ps, hm, ht⟩ := h; ⟨ps, s _ hm, ht⟩
theorem ListIn.k5 {a b : Led} {v : Value} {ns : List Int} (h : ListIn a v ns) (k : K5 a b) : ListIn b v ns := by
  obtain ⟨l, vs, kk, e, m, i⟩ := h
  exact ⟨l, vs, kk, e, k.1 _ m (by rintro ps ⟨⟩) (by rintro v ⟨⟩), i⟩
theorem RingIn.k5 {a b : Led} {rg : Addr} {q : Int} {n : Nat} (h : RingIn a rg q n) (k : K5 a b) : RingIn b rg q n := by
  refine RingIn.elim h ?_
  clear h
  intro d h1 k1 h2 k2 tq tn c m1 m2
  exact ⟨d, h1, k1, h2, k2, tq, tn, c, k.1 _ m1 (by rintro ps ⟨⟩) (by rintro v ⟨⟩), k.1 _ m2 (by rintro ps ⟨⟩) (by rintro v ⟨⟩)⟩
theorem PolyIn.k5 {a b : Led} {v : Value} {rg : Addr} {cs : List Int} (h : PolyIn a v rg cs) (k : K5 a b) : PolyIn b v rg cs := by
  obtain ⟨f, d, h1, k1, h2, k2, l, vs, kk, c, e, m1, m2, m3, i⟩ := h
  exact ⟨f, d, h1, k1, h2, k2, l, vs, kk, c, e, k.1 _ m1 (by rintro ps ⟨⟩) (by rintro v ⟨⟩), k.1 _ m2 (by rintro ps ⟨⟩) (by rintro v ⟨⟩), k.1 _ m3 (by rintro ps ⟨⟩) (by rintro v ⟨⟩), i⟩
theorem K5.list {a b : Led} {l : Addr} {vs : Array Value} {n : Nat} (k : K5 a b) (h : (l, W.listOf vs n) ∈ a) : (l, W.listOf vs n) ∈ b := k.1 _ h (by rintro ps ⟨⟩) (by rintro v ⟨⟩)
/-- where a statement of the law ends: what it may have changed -/
inductive S5 (h₀ : Heap) (L : Addr) (m : Str → Option Value) (news : Led) (s : Shared) (names : List Str) (cs : List Addr) (R : (Str → Option Value) → Led → Prop) (f : Flow) (s' : Shared) : Prop
  | mk (hf : f = .next) (m' : Str → Option Value) (nw : Led) (F : Fr h₀ L s'.heap m') (N : News h₀ L s'.heap nw) (hk : K5 news nw) (hc : KC cs news nw) (h1 : Tab 234 nw) (h2 : Tab 241 nw) (hm : ∀ z, names.contains z = false → m' z = m z) (G : AllBare s'.gens) (hos : s'.os = s.os) (r : R m' nw)
theorem S5.sub {h₀ : Heap} {L : Addr} {m m' : Str → Option Value} {news nw : Led} {s s' : Shared} {names : List Str} {cs : List Addr} {R : (Str → Option Value) → Led → Prop} {ps1 ps2 : Array Value} (F : Fr h₀ L s'.heap m') (N : News h₀ L s'.heap nw) (S : Sub news nw) (hP1 : (234, tabObj ps1) ∈ news) (ht1 : TriplesOk ps1.toList) (hP2 : (241, tabObj ps2) ∈ news) (ht2 : TriplesOk ps2.toList) (hm : ∀ z, names.contains z = false → m' z = m z) (G : AllBare s'.gens) (hos : s'.os = s.os) (r : R m' nw) : S5 h₀ L m news s names cs R .next s' :=
  ⟨rfl, m', nw, F, N, .of_sub S, .of_sub S, ⟨ps1, S _ hP1, ht1⟩, ⟨ps2, S _ hP2, ht2⟩, hm, G, hos, r⟩
theorem step_S5 {M : Model} {A : Around} {E : Value → Shared → Prop} {s : Shared} {env : Env} {st : Stmt} {rest : List Stmt} {Q : Flow → Shared → Prop} {h₀ : Heap} {L : Addr} {m : Str → Option Value} {news : Led} {names : List Str} {cs : List Addr} {R : (Str → Option Value) → Led → Prop}
    (h1 : wpAny M A (exec st env) (S5 h₀ L m news s names cs R) E s) (h2 : ∀ m' nw s', Fr h₀ L s'.heap m' → News h₀ L s'.heap nw → K5 news nw → KC cs news nw → Tab 234 nw → Tab 241 nw → (∀ z, names.contains z = false → m' z = m z) → AllBare s'.gens → s'.os = s.os → R m' nw → wpAny M A (execs rest env) Q E s') : wpAny M A (execs (st :: rest) env) Q E s := by
  refine wpAny_execs_cons (wpAny_mono h1 (fun f s' h => ?_) fun _ _ e => e)
  obtain ⟨rfl, m', nw, F, N, hk, hc, t1, t2, hm, G, hos, r⟩ := h
  exact h2 m' nw s' F N hk hc t1 t2 hm G hos r
/-- a store into a cell -/
theorem storeC {prog : Program} {w : World} {A : Around} {E : Value → Shared → Prop} {s : Shared} {h₀ : Heap} {L a c : Addr} {m : Str → Option Value} {cn x : Str} {cs : Scope} {ccd v : Value} {v₀ : Option Value} {cl : List (Str × Addr)} {nw : Led} {o : Obj} {Q : Unit → Shared → Prop}
    (F : Fr h₀ L s.heap m) (N : News h₀ L s.heap nw) (hc : cl.lookup x = some c) (hm : (c, o) ∈ nw) (hd : o.data = .cell v₀)
    (h : ∀ h' o', Fr h₀ L h' m → News h₀ L h' ((c, o') :: offP c nw) → o'.data = .cell (some v) → Q () { s with heap := h' })
    (hk : cs.kind = .function) (hx : (envX cn cs L a ccd cl).kindOf x = some .cell) : wpAny (model prog w) A (storeName (envX cn cs L a ccd cl) x v) Q E s := by
  have z := N _ hm
  refine wpAny_storeName_cell hk hx hc ⟨o, z.1, hd⟩ fun h' hv hs => ?_
  obtain ⟨o', ho', hd'⟩ := hv
  refine h h' o' (F.change hs z.2.1 z.2.2) (fun p hp => ?_) hd'
  rcases List.mem_cons.mp hp with rfl | hp
  · exact ⟨ho', z.2⟩
  · have q := of_offP hp
    exact ⟨hs.extBut _ _ q.2 (N _ q.1).1, (N _ q.1).2⟩
theorem K5.offP {h₀ h : Heap} {L c : Addr} {a b : Led} {o o' : Obj} {v v' : Option Value} (N : News h₀ L h b) (hm : (c, o) ∈ b) (hd : o.data = .cell v) (hd' : o'.data = .cell v') (k : K5 a b) : K5 a ((c, o') :: offP c b) := ⟨fun p hp h1 h2 => by
  have hb := k.1 p hp h1 h2
  refine List.mem_cons_of_mem _ (mem_offP hb fun e => ?_)
  have z := (N _ hb).1
  rw [e, (N _ hm).1] at z
  exact h2 v ((Option.some.inj z) ▸ hd), fun d x z => by
  obtain ⟨x', oo, hm', hdd⟩ := k.2 d x z
  by_cases e : d = c
  · subst e
    exact ⟨v', o', List.mem_cons_self, hd'⟩
  · exact ⟨x', oo, List.mem_cons_of_mem _ (mem_offP hm' e), hdd⟩⟩
theorem KC.offP {c : Addr} {cs : List Addr} {a b : Led} {o' : Obj} (hc : c ∈ cs) (k : KC cs a b) : KC cs a ((c, o') :: offP c b) := fun d v hd h => by
  obtain ⟨o, hm, hd'⟩ := k d v hd h
  exact ⟨o, List.mem_cons_of_mem _ (mem_offP hm fun e => hd (by have e' : d = c := e; rw [e']; exact hc)), hd'⟩
theorem Tab.offP {P c : Addr} {b : Led} {o' : Obj} (h : Tab P b) (hne : P ≠ c) : Tab P ((c, o') :: offP c b) := by
  obtain ⟨ps, hm, ht⟩ := h
  exact ⟨ps, List.mem_cons_of_mem _ (mem_offP hm hne), ht⟩
/-- the end of a statement that stores a cell -/
theorem S5.cell {h₀ h : Heap} {L c : Addr} {m m' : Str → Option Value} {news nw : Led} {s s' : Shared} {names : List Str} {R : (Str → Option Value) → Led → Prop} {o o' : Obj} {v₀ : Option Value} {v : Value} {ps1 ps2 : Array Value} (F : Fr h₀ L s'.heap m') (N₀ : News h₀ L h nw) (N : News h₀ L s'.heap ((c, o') :: offP c nw)) (S : Sub news nw) (hm0 : (c, o) ∈ nw) (hd0 : o.data = .cell v₀)
    (hP1 : (234, tabObj ps1) ∈ news) (ht1 : TriplesOk ps1.toList) (hP2 : (241, tabObj ps2) ∈ news) (ht2 : TriplesOk ps2.toList) (hm : ∀ z, names.contains z = false → m' z = m z) (G : AllBare s'.gens) (hos : s'.os = s.os) (hd' : o'.data = .cell (some v)) (r : Cell ((c, o') :: offP c nw) c (some v) → R m' ((c, o') :: offP c nw)) : S5 h₀ L m news s names [c] R .next s' :=
  ⟨rfl, m', _, F, N, (K5.of_sub S).offP N₀ hm0 hd0 hd', (KC.of_sub S).offP (List.mem_singleton.mpr rfl), Tab.offP ⟨ps1, S _ hP1, ht1⟩ (ob_ne (N₀ _ hm0).1 (N₀ _ (S _ hP1)).1 (Ne.symm (cell_neT hd0))), Tab.offP ⟨ps2, S _ hP2, ht2⟩ (ob_ne (N₀ _ hm0).1 (N₀ _ (S _ hP2)).1 (Ne.symm (cell_neT hd0))), hm, G, hos, r ⟨o', List.mem_cons_self, hd'⟩⟩
/-- the three elements and the numbers that stand for them -/
inductive HV (Ev : Nat → List Int → List Int → Prop) (nw : Led) (rg lh lv : Addr) (k : Nat) : Prop
  | mk (hvs wvs : List Value) (kh kv : Nat) (l1 : hvs.length = k) (l2 : wvs.length = k) (mh : (lh, W.listOf hvs.toArray kh) ∈ nw) (mv : (lv, W.listOf wvs.toArray kv) ∈ nw) (hp : ∀ i, i < k → ∃ v w cs xs, hvs[i]? = some v ∧ wvs[i]? = some w ∧ PolyIn nw v rg cs ∧ ListIn nw w xs ∧ Ev i cs xs)
theorem HV.k5 {Ev : Nat → List Int → List Int → Prop} {a b : Led} {rg lh lv : Addr} {k : Nat} (h : HV Ev a rg lh lv k) (hk : K5 a b) : HV Ev b rg lh lv k := by
  obtain ⟨hvs, wvs, kh, kv, l1, l2, mh, mv, hp⟩ := h
  refine ⟨hvs, wvs, kh, kv, l1, l2, hk.list mh, hk.list mv, fun i hi => ?_⟩
  obtain ⟨v, w, cs, xs, e1, e2, p, l, ev⟩ := hp i hi
  exact ⟨v, w, cs, xs, e1, e2, p.k5 hk, l.k5 hk, ev⟩
theorem m_one {x z : Str} {v : Value} {m : Str → Option Value} (h : [x].contains z = false) : (fun y => if y = x then some v else m y) z = m z := by
  have : z ≠ x := by rintro rfl; simp at h
  simp [this]
theorem nat_fmodN (x : Int) (k : Int) (hk : 0 < k) : ∃ e : Nat, Int.fmod x k = (e : Int) ∧ (e : Int) < k := by
  have h1 := fmod_lo x hk
  have h2 := fmod_hi x hk
  exact ⟨(Int.fmod x k).toNat, by omega, by omega⟩
section
variable {M : Model} {A : Around} {E : Value → Shared → Prop} {s : Shared} {h₀ : Heap} {L a : Addr} {m : Str → Option Value} {cn : Str} {cs : Scope} {ccd : Value} {cl : List (Str × Addr)} {x : Str} {v : Value} {Q : Value → Shared → Prop}
theorem loadName_L (F : Fr h₀ L s.heap m) (hv : m x = some v) (h : Q v s) (hk : cs.kind = .function) (hx : (envX cn cs L a ccd cl).kindOf x = some .local) : wpAny M A (loadName (envX cn cs L a ccd cl) x) Q E s :=
  wpAny_loadName_local hk hx F.ns hv h
end
end Mine05
end
section
namespace Mine05
local macro_rules | `(tactic| k_mem) => `(tactic| first | with_reducible assumption | with_reducible exact List.mem_cons_self | (refine List.mem_cons_of_mem _ ?_; k_mem) | (refine Sub.get (by with_reducible assumption) ?_; k_mem))
local macro_rules | `(tactic| is_list) => `(tactic| exact News.isList (by k_asm) (by k_mem))
local macro_rules | `(tactic| k_room) => `(tactic| ktr_room)
local macro_rules | `(tactic| k_units) => `(tactic| ktr_units)
local macro_rules | `(tactic| k_all) => `(tactic| first | assumption | exact allLt_ne (by assumption) | exact allLt_ne (by assumption : _ ∧ AllLt _ _).2 | exact allLt_ne (by assumption : _ ∧ _ ∧ AllLt _ _).2.2 | exact allLt_ne (by assumption : _ ∧ _ ∧ _ ∧ AllLt _ _).2.2.2 | exact allLt_ne (by assumption : _ ∧ _ ∧ _ ∧ _ ∧ AllLt _ _).2.2.2.2 | exact allLt_ne (allLt_of (by assumption)))
local macro_rules | `(tactic| ktr_enter) => `(tactic| (refine' code_defC ?k1 ?k2 ?k3 ?k4 ?k5 ?kA ?kF ?kK ?k6 ?k7 ?k8 ?k9 ?kB ?kD ?_ ?c2 ?c3 ?c4; (case kA | kF => exact rfl); (case kK => assumption); (case k1 | k2 | k3 | k4 | k5 => k_asm); (case k6 | k7 => k_is); (case k8 => ktr_room); (case k9 => exact BindsTo.of_eq rfl); (case kB => exact rfl); (case kD => decide +kernel); (case c2 | c3 | c4 => exact rfl); k_whole; intro g' L' h' tk' cells' FG' F' N' Y' B' X' T' l1; (try k_lt l1); k_cells Y'; (try simp only [List.cons_append, List.nil_append] at N'); (try dsimp only); (try k_lift B'); (try k_fold)))
local macro_rules | `(tactic| ktr_enter) => `(tactic| (refine' code_def ?k1 ?k2 ?k3 ?k4 ?k5 ?kA ?kF ?kK ?k6 ?k7 ?k8 ?k9 ?kB ?_ ?c2 ?c3 ?c4 ?c5; (case kA | kF => exact rfl); (case kK => assumption); (case k1 | k2 | k3 | k4 | k5 => k_asm); (case k6 | k7 => k_is); (case k8 => ktr_room); (case k9 => exact BindsTo.of_eq rfl); (case c5 => decide); (case kB => exact locs rfl); (case c2 | c3 | c4 => exact rfl); k_whole; intro g' L' h' FG' F' N' B' X' T'; (try dsimp only); (try k_lift B'); (try k_fold)))
set_option hygiene false
local macro_rules | `(tactic| walk_at "@c") => `(tactic| ((case zB | zF | zX | zN | zT => k_asm); (case zhk => first | exact rfl | assumption); (case zhd => ktr_room); (case zhu => ktr_units); (try (case zhr => walk_at "@R")); (try (case zhp => walk_at "@P")); (try (case zhpu => walk_at "@P")); (try (case zhl => walk_at "@L")); (try (case zhlen => walk_at "@N")); (try (case zhlen2 => walk_at "@N")); (try (case zh1n => walk_at "@O")); (try (case zhn => walk_at "@O")); (try (case zhq => walk_at "@O")); (try (case zhq2 => walk_at "@O")); (try (case zhe => walk_at "@O")); (try (case zhm9 => walk_at "@O")); (try (case zhb => walk_at "@B")); (try (case zhb2 => walk_at "@B"))))
local macro_rules | `(tactic| walk_at "@R") => `(tactic| (exact RingIn.mk' (by k_mem) (by k_mem)))
local macro_rules | `(tactic| walk_at "@P") => `(tactic| (first | exact PolyIn.mk' (by k_mem) (by k_mem) (by k_mem) (by first | assumption | l_ints) | exact ListIn.mk' (by k_mem) (by first | assumption | l_ints)))
local macro_rules | `(tactic| walk_at "@L") => `(tactic| (exact ListIn.mk' (by k_mem) (by first | assumption | l_ints)))
local macro_rules | `(tactic| walk_at "@N") => `(tactic| (first | assumption | omega | exact powL_len _ (by omega) (by assumption) _ | (simp only [List.length_map, List.length_zipWith, List.length_cons, List.length_nil, List.length_replicate, List.length_append, List.length_set, mulq_length, rangeKs_length] <;> first | rfl | omega)))
local macro_rules | `(tactic| walk_at "@O") => `(tactic| (omega))
local macro_rules | `(tactic| walk_at "@B") => `(tactic| (first | assumption | exact bd_mapf (by omega) (by omega) _ _ | exact bd_mulq (by omega) (by omega) _ _ _))
local macro_rules | `(tactic| walk_at "@pn") => `(tactic| (intro r' nw' h' tk' F' N' S' O'; refine PolyNew.elim O' ?_; clear O'; intro f' d' h1' k1' h2' k2' l' vs' k' c' e1' m1' m2' m3' i3' n3'; subst e1'; clear n3'))
local macro_rules | `(tactic| walk_at "@po") => `(tactic| (intro r' nw' h' tk' F' N' S' O'; refine PolyIn.elim O' ?_; clear O'; intro f' d' h1' k1' h2' k2' l' vs' k' c' e1' m1' m2' m3' i3'; subst e1'))
local macro_rules | `(tactic| walk_at "@ls") => `(tactic| (intro r' nw' h' tk' F' N' S' O'; refine ListIn.elim O' ?_; clear O'; intro l' vs' k' e1' m1' i1'; subst e1'))
local macro_rules | `(tactic| walk_at "@e") => `(tactic| (k_dflt (first | refine cmpBack_ref ?_ | refine cmpBack_bool ?_ | skip); (try k_sweep)))
/-- a call of an int's number slot with an object at its right declines -/
theorem int_ref {x : Addr} {ox : Obj} (hd : ox.data = .plain) (a : Int) (t : Tok) :
    GivesAt (fun s => s.heap.get? x = some ox) (Builtin.«int.__mul__» ⟨[.int a t, .ref x], []⟩) (.val .notImplemented)
    ∧ GivesAt (fun s => s.heap.get? x = some ox) (Builtin.«int.__add__» ⟨[.int a t, .ref x], []⟩) (.val .notImplemented)
    ∧ GivesAt (fun s => s.heap.get? x = some ox) (Builtin.«int.__sub__» ⟨[.int a t, .ref x], []⟩) (.val .notImplemented) := by
  refine ⟨?_, ?_, ?_⟩ <;> (
  intro prog w A R s hx hq
  refine wpAny_mono (M := model prog w) (Q := fun fin s' => ∃ v, fin = .done (.ret v) ∧ R (.ok (.ret v)) s') ?_ (fun fin s' h' => by obtain ⟨v, rfl, hv⟩ := h'; exact hv) fun _ _ x => x
  obtain ⟨hp, g, d, tk, os⟩ := s
  have hx' : Heap.get? hp x = some ox := hx
  wp_walk
  rw [hd]
  wp_walk
  exact ⟨_, rfl, hq⟩)
theorem binop_R {prog : Program} {w : World} {A : Around} {E : Value → Shared → Prop} {s : Shared} {K : Frag} {x C L f g : Addr} {h₀ : Heap} {m : Str → Option Value} {ox : Obj} {od : Option Obj}
    {op : Operator} {a : Int} {t : Tok} {idl : String} {B : Builtin} {Q : Value → Shared → Prop}
    (fills : fillsNumberSlot (.type "int") op.info.2 = pure true) (slot : Slot "int" (PySem.dunder op.info.2) idl) (entry : entryFor table idl = some B) (args : argsOk idl ⟨[.int a t, .ref x], []⟩)
    (gv : GivesAt (fun s => s.heap.get? x = some ox) (B ⟨[.int a t, .ref x], []⟩) (.val .notImplemented))
    (F : Fr h₀ L s.heap m) (X₀ : K.In h₀) (I : InstAt s.heap x ox C od) (hc : selfFirst K C = true)
    (hs : findIn K (.ref C) (PySem.dunder op.info.2) = some (some (.ref f))) (hr : findIn K (.ref C) (dunderR op.info.2) = some (some (.ref g))) (hf : isFn K (.ref g) = true)
    (hsub : subIn K (.ref C) (.type "int") = some false)
    (h : wpAny (model prog w) A (call (.ref g) [.ref x, .int a t]) (PySem.W.CmpBack Q) E s) : wpAny (model prog w) A (binaryOp op (.int a t) (.ref x)) Q E s := by
  have X := X₀.keeps F.keep
  obtain ⟨cd, rest, hcd, hm⟩ := ksp_first hc
  rcases hi : op.info with ⟨sym, nm'⟩
  rw [hi] at hs hr fills slot
  dsimp only at hs hr fills slot
  have two := ksp_try X I hr hf h
  have hx : s.heap.get? x = some ox := I.at_
  obtain ⟨hh, gg, d, tt, os⟩ := s
  have one : wpAny (model prog w) A (tryMethod (.int a t) (PySem.dunder nm') (.ref x)) (fun r s' => r = none ∧ s' = ⟨hh, gg, d, tt, os⟩) E ⟨hh, gg, d, tt, os⟩ :=
    wpAny_tryMethod_declines (typeIs_int _ a t) slot (call_givesAt slot (typeIs_int _ a t) entry args gv hx ⟨rfl, rfl, rfl⟩)
  have L1 : Looks (model prog w) hh (typeOf (.ref x)) (.ref C) := I.type
  have L2 : Looks (model prog w) hh (typeOf (.int a t)) (.type "int") := Looks.of_pure rfl
  have L3 : Looks (model prog w) hh (fillsNumberSlot (.ref C) nm') true := fills_K X hcd hm hs
  have L4 : Looks (model prog w) hh (fillsNumberSlot (.type "int") nm') true := Looks.of_pure fills
  have L5 : Looks (model prog w) hh (isSubtype (.ref C) (.type "int")) false := looks_subIn X hsub
  have L7 : Looks (model prog w) hh (numberSlotInPython (.type "int") nm') false := Looks.of_pure rfl
  have hne : (Value.type "int" == Value.ref C) = false := Bool.eq_false_iff.mpr fun q => by cases beq_iff_eq.mp q
  simp only [binaryOp, hi]
  refine wpAny_holding (wpAny_bind ?_)
  unfold binaryOp1
  refine wpAny_bind (L2.at (wpAny_bind (L1.at (wpAny_bind (L4.at ?_)))))
  simp only [hne, Bool.false_eq_true, if_false]
  ksp_lk
  refine wpAny_mono one (fun r s' hr' => ?_) fun _ _ e => e
  obtain ⟨rfl, rfl⟩ := hr'
  ksp_lk
  refine wpAny_mono two (fun r s' hr' => ?_) fun _ _ e => e
  obtain ⟨v, rfl, hq⟩ := hr'
  ksp_lk
  exact hq

section
open PySem.SeqAt

end

theorem lt_ne_succ {d k : Nat} (h : d < k) : k + 1 ≠ d := by omega

theorem put2 {name : Str} {hsh h1 h2 : Int} {key v1 v2 v : Value} {y1 y2 : Value} {n : Nat} (e1 : y1.isStr name = false) (e2 : y2.isStr name = true) :
    (putL name hsh key v [⟨h1, y1, v1⟩, ⟨h2, y2, v2⟩], putN name [⟨h1, y1, v1⟩, ⟨h2, y2, v2⟩] n) = ([⟨h1, y1, v1⟩, ⟨h2, y2, v⟩], n) := by
  simp [putL, putN, e1, e2]

theorem walkOff1 : True := by
  w_top off
  trivial
/-- a new object whose list is the given one, or new -/
inductive PolyNewL (news nw : Led) (v : Value) (rg : Addr) (cs : List Int) (l0 : Addr) : Prop
  | mk (f d h1 k1 h2 k2 l vs k c) (a0 : v = .ref f) (a1 : (f, instObj 220 d) ∈ nw) (a2 : (d, W.dictOf [⟨h1, .str (Str.ofString "parent") k1, .ref rg⟩, ⟨h2, .str (Str.ofString "coeffs") k2, .ref l⟩] c) ∈ nw) (a3 : (l, W.listOf (List.toArray vs) k) ∈ nw) (a4 : IntsAre vs cs) (a5 : ∀ p ∈ news, p.1 ≠ d) (a6 : l = l0 ∨ ∀ p ∈ news, p.1 ≠ l)
/-- a new object whose list is new too -/
inductive PolyNewF (news nw : Led) (v : Value) (rg : Addr) (cs : List Int) : Prop
  | mk (f d h1 k1 h2 k2 l vs k c) (a0 : v = .ref f) (a1 : (f, instObj 220 d) ∈ nw) (a2 : (d, W.dictOf [⟨h1, .str (Str.ofString "parent") k1, .ref rg⟩, ⟨h2, .str (Str.ofString "coeffs") k2, .ref l⟩] c) ∈ nw) (a3 : (l, W.listOf (List.toArray vs) k) ∈ nw) (a4 : IntsAre vs cs) (a5 : ∀ p ∈ news, p.1 ≠ d) (a6 : ∀ p ∈ news, p.1 ≠ l)
set_option maxHeartbeats 8000000 in
theorem ring_specL (w mean mg mb) (news : Led) (rg : Addr) (l : Addr) (ns : List Int) (q : Int) (n : Nat) (hr : RingIn news rg q n) (hl : ListIn news (.ref l) ns) (hlen : ns.length ≤ n) (hn : n ≤ 64) :
    Spec w mean mg mb 56 [.ref rg, .ref l] 3 news (fun r nw => PolyNewL news nw r rg (ns ++ List.replicate (n - ns.length) 0) l) := by
  obtain ⟨l, vs, k, e, hm, hi⟩ := hl
  obtain rfl := Value.ref.inj e
  clear e
  refine RingIn.elim hr ?_
  clear hr
  intro d h1 k1 h2 k2 tq tn c hr1 hr2
  unfold Spec
  k_fill
  intro dp un gd cn cs a ccd cl outer A₀ base h₀ L m s Q E B F X N T hk hd hu hret
  first | k_dflt ktr_enter | fail "enter"
  k_steps
  all_goals (refine hret _ _ _ _ (by k_asm) (by k_asm) (by intro p hp; k_mem) ?_)
  all_goals (refine ⟨_, _, _, _, _, _, _, _, _, _, rfl, by k_mem, by k_mem, by k_mem, ?_, ?_, ?_⟩)
  · (rename IntsAre _ (ns ++ _) => hI)
    refine Eq.mp (congrArg (IntsAre _) (congrArg (ns ++ ·) ?_)) hI
    rw [List.map_const', rangeKs_length]
    congr 1
    omega
  · k_all
  · right
    k_all
  · have e : n - ns.length = 0 := by omega
    rw [e]; simpa using hi
  · k_all
  · exact .inl rfl
theorem ring_spec (w mean mg mb) (news : Led) (rg : Addr) (v : Value) (ns : List Int) (q : Int) (n : Nat) (hr : RingIn news rg q n) (hl : ListIn news v ns) (hlen : ns.length ≤ n) (hn : n ≤ 64) :
    Spec w mean mg mb 56 [.ref rg, v] 3 news (fun r nw => PolyNew news nw r rg (ns ++ List.replicate (n - ns.length) 0)) := by
  obtain ⟨l, vs, k, rfl, hm, hi⟩ := hl
  intro dp un gd cn cs a ccd cl outer A₀ base h₀ L m s Q E B F X N T hk hd hu hret
  refine Spec.use (ring_specL w mean mg mb news rg l ns q n hr ⟨l, vs, k, rfl, hm, hi⟩ hlen hn) B F X N T hk hd hu fun r nw h' tk' F' N' S' O => hret r nw h' tk' F' N' S' ?_
  obtain ⟨f, d, h1, k1, h2, k2, l', vs', k', c, e, m1, m2, m3, i, n1, _⟩ := O
  exact ⟨f, d, h1, k1, h2, k2, l', vs', k', c, e, m1, m2, m3, i, n1⟩
theorem walkOff2 : True := by
  w_top off
  trivial
set_option maxHeartbeats 8000000 in
theorem ringi_spec (w mean mg mb) (news : Led) (rg : Addr) (x : Int) (t : Tok) (q : Int) (n : Nat) (hr : RingIn news rg q n) (h1n : 1 ≤ n) (hn : n ≤ 64) :
    Spec w mean mg mb 56 [.ref rg, .int x t] 3 news (fun r nw => PolyNew news nw r rg (x :: List.replicate (n - 1) 0)) := by
  refine RingIn.elim hr ?_
  clear hr
  intro d h1 k1 h2 k2 tq tn c hr1 hr2
  unfold Spec
  k_fill
  intro dp un gd cn cs a ccd cl outer A₀ base h₀ L m s Q E B F X N T hk hd hu hret
  first | k_dflt ktr_enter | fail "enter"
  k_steps
  all_goals (refine hret _ _ _ _ (by k_asm) (by k_asm) (by intro p hp; k_mem) ?_)
  all_goals (refine ⟨_, _, _, _, _, _, _, _, _, _, rfl, by k_mem, by k_mem, by k_mem, ?_, ?_⟩)
  · (rename IntsAre _ ([_] ++ _) => hI)
    refine Eq.mp (congrArg (IntsAre _) ?_) hI
    rw [List.map_const', rangeKs_length, List.singleton_append]
    congr 2
    omega
  · k_all
  · have e : n - 1 = 0 := by omega
    rw [e]; exact .cons _ _ .nil
  · k_all
section
local macro_rules | `(tactic| walk_at "exec For Name Call cons nil") => `(tactic| (k_here; (rename Fr _ _ _ _ => lF'); (with_unfolding_all refine' For_invVF lF' ?k1 ?k2 ?_; (case k1 => exact rfl); (case k2 => exact rfl); k_whole)))
local macro_rules | `(tactic| walk_at "pyIter ref") => `(tactic| (k_here; refine halt_of ?_))
local macro_rules | `(tactic| walk_at "binaryOp Mult int int") => `(tactic| (k_here; (with_reducible show wpAny _ _ (binaryOp Operator.Mult (Value.int _ _) (Value.int _ _)) _ _ _); k_dflt (refine PyProof.Rows.mul_int ?_ (mulOk_bd (bd_getD (by assumption) _) (bd_getD (by assumption) _)))))
theorem walkOff3 : True := by
  w_top off
  trivial
set_option maxHeartbeats 4000000 in
theorem school_spec (w mean mg mb) (news : Led) (rg : Addr) (v u : Value) (as bs : List Int) (q : Int) (n : Nat) (hr : RingIn news rg q n) (hp : PolyIn news v rg as) (hpu : PolyIn news u rg bs) (hlen : as.length = n) (hlen2 : bs.length = n) (h1n : 1 ≤ n) (hn : n ≤ 64) (hq : 0 < q) (hb : ∀ a ∈ as, Bd a) (hb2 : ∀ a ∈ bs, Bd a) :
    Spec w mean mg mb 120 [v, u] 2 news (fun r nw => ListIn nw r ((sbook as bs n).map fun c => Int.fmod c q)) := by
  refine RingIn.elim hr ?_
  clear hr
  intro d h1 k1 h2 k2 tq tn c hr1 hr2
  refine PolyIn.elim hp ?_
  clear hp
  intro f df h3 k3 h4 k4 l vs k cf eP9 hp1 hp2 hp3 hi
  subst eP9
  refine PolyIn.elim hpu ?_
  clear hpu
  intro f2 df2 h5 k5 h6 k6 l2 vs2 kk cf2 eP9 hp4 hp5 hp6 hi2
  subst eP9
  unfold Spec
  k_fill
  intro dp un gd cn cs a ccd cl outer A₀ base h₀ L m s Q E B F X N T hk hd hu hret
  first | k_dflt ktr_enter | fail "enter"
  k_steps
  unfold Halt
  refine' loop_rl (n := n) [Str.ofString "j"] (outer1 as bs n) ?hh ?hr ?hbd ?hnn ?F ?N ?hD ?hi (fun i u h tk vs k t zn hin hI hS hoff F' N' => ?turn) (fun u h tk vs k hI F' N' => ?done)
  case hh => rfl
  case hr => assumption
  case hbd => omega
  case hnn => omega
  case F => k_asm
  case N => k_asm
  case hD => exact off1_ne (by assumption)
  case hi =>
    rename IntsAre _ (List.map _ (rangeKs _ _)) => hZ
    rw [outer1]
    rw [List.map_const', rangeKs_length] at hZ
    simpa using hZ
  case turn =>
    k_steps
    unfold Halt
    refine' loop_rl (n := n - i) [] (fun j => inner1 as bs i j (outer1 as bs n i)) ?hh ?hr ?hbd ?hnn ?F ?N ?hD ?hi (fun j u2 h2 tk2 vs2 kk2 t2 zn2 hin2 hI2 hS2 hoff2 F2 N2 => ?turn2) (fun u2 h2 tk2 vs2 kk2 hI2 F2 N2 => ?done2)
    case hh => rfl
    case hr => assumption
    case hbd => omega
    case hnn => omega
    case F => k_asm
    case N => k_asm
    case hD => exact hoff
    case hi => exact hI
    case turn2 =>
      have hL2 : (inner1 as bs i j (outer1 as bs n i)).length = n := by rw [inner1_length, outer1_length]
      k_steps
      refine LEnd.intro (by k_asm) (by k_asm) (by k_mem) (by intro p hp; k_mem) ?hI ?hr
      case hr => intro z h1 h2; simp [h1]
      case hI => 
        have e1 : ((0 : Int) + (i : Int) + (0 + (j : Int))).toNat = i + j := by omega
        have e2 : ((0 : Int) + (i : Int)).toNat = i := by omega
        have e3 : ((0 : Int) + (j : Int)).toNat = j := by omega
        rename IntsAre _ (List.set _ _ _) => hS9
        refine Eq.mp (congrArg (IntsAre _) ?_) hS9
        rw [e1, e2, e3]; rfl
    case done2 =>
      k_steps
      refine LEnd.intro (by k_asm) (by k_asm) (by k_mem) (by intro p hp; k_mem) ?hI ?hr
      case hr => (intro z h1 h2; have h3 : z ≠ Str.ofString "j" := (by intro e; subst e; simp at h2); simp [h1, h3])
      case hI => exact hI2
  case done =>
    k_steps
    unfold Halt
    refine' loop_rl (n := n - 1) [Str.ofString "i"] (outer2 as bs n) ?hh ?hr ?hbd ?hnn ?F ?N ?hD ?hi (fun i u h tk vs k t zn hin hI hS hoff F' N' => ?turn) (fun u h tk vs k hI F' N' => ?done)
    case hh => rfl
    case hr => assumption
    case hbd => omega
    case hnn => omega
    case F => k_asm
    case N => k_asm
    case hD => exact off1_ne (by assumption)
    case hi => exact hI
    case turn =>
      k_steps
      unfold Halt
      refine' loop_rl (n := i + 1) [] (fun t => inner2 as bs n (i + 1) t (outer2 as bs n i)) ?hh ?hr ?hbd ?hnn ?F ?N ?hD ?hi (fun j u2 h2 tk2 vs2 kk2 t2 zn2 hin2 hI2 hS2 hoff2 F2 N2 => ?turn2) (fun u2 h2 tk2 vs2 kk2 hI2 F2 N2 => ?done2)
      case hh => rfl
      case hr => assumption
      case hbd => omega
      case hnn => omega
      case F => k_asm
      case N => k_asm
      case hD => exact hoff
      case hi => exact hI
      case turn2 =>
        have hL2 : (inner2 as bs n (i + 1) j (outer2 as bs n i)).length = n := by rw [inner2_length, outer2_length]
        k_steps
        refine LEnd.intro (by k_asm) (by k_asm) (by k_mem) (by intro p hp; k_mem) ?hI ?hr
        case hr => intro z h1 h2; simp [h1]
        case hI => 
          have e1 : ((n : Int) - (1 + (i : Int)) + (j : Int) + (1 + (i : Int)) - (n : Int)).toNat = j := by omega
          have e2 : ((n : Int) - (1 + (i : Int)) + (j : Int)).toNat = n - (i + 1) + j := by omega
          have e3 : ((1 : Int) + (i : Int)).toNat = i + 1 := by omega
          rename IntsAre _ (List.set _ _ _) => hS9
          refine Eq.mp (congrArg (IntsAre _) ?_) hS9
          rw [e1, e2, e3]; rfl
      case done2 =>
        k_steps
        refine LEnd.intro (by k_asm) (by k_asm) (by k_mem) (by intro p hp; k_mem) ?hI ?hr
        case hr => (intro z h1 h2; have h3 : z ≠ Str.ofString "i" := (by intro e; subst e; simp at h2); simp [h1, h3])
        case hI => exact hI2
    case done =>
      have hLo : (outer2 as bs n (n - 1)).length = n := outer2_length as bs n (n - 1)
      k_steps
      refine hret _ _ _ _ (by k_asm) (by k_asm) (by intro p hp; k_mem) ⟨_, _, _, rfl, by k_mem, ?_⟩
      assumption
end
theorem walkOff4 : True := by
  w_top off
  trivial
set_option maxHeartbeats 4000000 in
theorem draw_spec (w mean mg mb) (news : Led) (sl : Addr) (svs : List Value) (sns : List Int) (hsi : IntsAre svs sns) (hsb : ∀ x ∈ sns, Builtin.Int.intBits x ≤ 2 ^ 20) (hsl : sns.length ≤ 63) (k : Int) (t : Tok) (hk0 : 0 ≤ k) (hk1 : k ≤ 1000) :
    SpecS w mean mg mb sl svs 232 [.ref sl, .int k t] 2 news (fun r nw => ∃ x t, r = .int x t ∧ Builtin.Int.intBits x ≤ 2 ^ 20) := by
  unfold SpecS
  k_fill
  intro dp un gd cn cs a ccd cl outer A₀ base h₀ L m s Q E B hS F X N T hk hd hu hret
  first | k_dflt ktr_enter | fail "enter"
  k_steps
  · refine hret _ _ _ _ (by k_asm) (by k_asm) (by intro p hp; k_mem) ⟨_, _, rfl, ?_⟩
    exact bits_getD hsb _
  · refine hret _ _ _ _ (by k_asm) (by k_asm) (by intro p hp; k_mem) ⟨_, _, rfl, ?_⟩
    have h1 : k * (k + 1) ≤ 1000 * 1001 := Int.mul_le_mul hk1 (by omega) (by omega) (by omega)
    have h2 : 0 ≤ k * (k + 1) := Int.mul_nonneg hk0 (by omega)
    rw [Int.fdiv_eq_ediv_of_nonneg _ (by decide)]
    exact bits_small (by omega) (by omega)
section
local macro_rules | `(tactic| walk_at "eval Call") => `(tactic| (k_here; (with_reducible show wpAny _ _ (eval (Expr.Call (Expr.Name _ _) _ [] _) _) _ _ _); k_dflt (refine Call_ ?_)))
theorem walkOff5 : True := by
  w_top off
  trivial
set_option maxHeartbeats 4000000 in
theorem value_spec (w mean mg mb) (news : Led) (v : Value) (as : List Int) (p q : Int) (tp tq : Tok) (hl : ListIn news v as) (hlen : as.length ≤ 64) (hb : ∀ x ∈ as, Bd x) (hp0 : 0 < p) (hp : p < 256) (hq : 0 < q) :
    SpecT w mean mg mb 239 [v, .int p tp, .int q tq] 8 238 234 news (fun r _ => ∃ t, r = .int (Int.fmod (preSum (fun i => as.getD i 0 * p ^ i) as.length) q) t) := by
  obtain ⟨l, vs, k, rfl, hm, hi⟩ := hl
  unfold SpecT
  k_fill
  intro dp un gd cn cs a ccd cl outer A₀ base h₀ L m s ps Q E B F X N hP ht hC hG T hk hd hu hret
  first | k_dflt ktr_enter | fail "enter"
  k_steps
  rename Fr h₀ _ _ _ => F0
  rename Fr _ _ _ _ => F1
  rename News _ _ _ _ => N1
  rename Top _ _ _ _ _ _ => T1
  have hCg := C_of F0 hC
  obtain ⟨_, _, M1⟩ := bmod_of_top T1
  have hP1 := N1 (234, tabObj ps) (by k_mem)
  have hlenv : vs.length = as.length := hi.length
  refine GeneratorExp_L F1 M1 hCg hP1.2.2 hP1.2.1 (by with_unfolding_all rfl) (by rfl) (by with_unfolding_all rfl) (by with_unfolding_all rfl) (by decide) (by with_unfolding_all rfl) (by with_unfolding_all rfl) (by with_unfolding_all rfl) (by ktr_room) (by intro _; with_unfolding_all rfl) ?_
  k_steps
  rename IsRange _ _ _ _ _ _ _ _ => hr9
  rename News _ _ _ _ => N2
  rename Fr _ _ _ _ => F2
  have mc2 := off_memT N2 (P := 234) (ps := ps) (by k_mem) List.mem_cons_self (cell_neT (by assumption))
  have mc1 := off_memT N2 (P := 234) (ps := ps) (by k_mem) (List.mem_cons_of_mem _ List.mem_cons_self) (cell_neT (by assumption))
  have ml := off_memT N2 (P := 234) (ps := ps) (by k_mem) (List.mem_cons_of_mem _ (List.mem_cons_of_mem _ hm)) list_neT
  refine GSrc.mk _ _ _ _ as.length _ ps (fun i => as.getD i 0 * p ^ i) rfl hr9 (by omega) F2 N2 (by k_mem) ht hG T1.nolimit ?he ?fin
  case he =>
    intro code C A' E' i t u m₂ hA hD hU hi9 hF hm9 hN9
    have hx := ints_getD hi hi9
    obtain ⟨tx, hx⟩ := hx
    refine wpAny_BinOp (Subscript_ (wpAny_Name (wpAny_loadName_free rfl (by rfl) (by rfl) ⟨_, (hN9 _ mc1).1, by assumption⟩ ?_)))
    refine wpAny_Name (wpAny_loadName_local rfl (by rfl) hF.ns hm9 ?_)
    have hl9 := News.isList hN9 ml
    refine tail_any hl9.typeIs slot_list_getitem.lookup (wpAny_getItem_list hl9 (by omega) (by omega) (by rw [Int.toNat_natCast, List.getElem?_toArray]; exact hx) ?_) (by with_unfolding_all rfl)
    refine wpAny_BinOp (wpAny_Name (wpAny_loadName_free rfl (by rfl) (by rfl) ⟨_, (hN9 _ mc2).1, by assumption⟩ ?_))
    refine wpAny_Name (wpAny_loadName_local rfl (by rfl) hF.ns hm9 ?_)
    refine PyProof.Rows.pow_int (by omega) (pow_bits hp0 hp (by omega)) ?_
    refine PyProof.Rows.mul_int ?_ (mulOk_bd (bd_getD hb i) (bd_pow hp0 hp (by omega)))
    exact ⟨⟨_, by rw [Int.toNat_natCast]⟩, _, _, rfl, fun _ _ e => e⟩
  case fin =>
    intro a s₅ ps' F5 N5 ht5 G5 hos5 X5
    k_steps
    refine sum_L F5 N5 G5 X5 (fun s6 t6 F6 N6 G6 hos6 => ?_)
    clear F5 N5 G5 X5 F2 N2 hr9
    k_steps
    rename News h₀ _ _ _ => N7
    rename Fr h₀ _ _ _ => F7
    exact hret _ ps' _ _ F7 N7 (fun p hp hne => List.mem_cons_of_mem _ (mem_offP (by k_mem) hne)) List.mem_cons_self ht5 G6 (hos6.trans hos5) ⟨_, rfl⟩
section
local macro_rules | `(tactic| walk_at "call builtin:pow") => `(tactic| (k_here; (with_reducible show wpAny _ _ (call (Value.builtin "pow") [Value.int _ _, Value.int _ _, Value.int _ _]) _ _ _); k_dflt (refine' call_pow3 ?za9 ?zb9 ?_; (case za9 | zb9 => omega)); (try k_sweep)))
local macro_rules | `(tactic| walk_at "eval ListComp") => `(tactic| (k_here; (with_reducible show wpAny _ _ (eval (Expr.ListComp _ _ _ _) _) _ _ _); refine halt_of ?_))
local macro_rules | `(tactic| k_all) => `(tactic| exact lt_off (by assumption) (by repeat (first | exact Nat.le_refl _ | apply Nat.le_succ_of_le)))
theorem walkOff6 : True := by
  w_top off
  trivial
/-- what the values at the roots tell back, place by place -/
def toldAt (xs rs : List Int) (q : Int) (u : Nat) : Int := Int.fmod ((rs.length : Int) ^ (q - 2).toNat % q * preSum (fun s => xs.getD s 0 * (rs.getD s 0 ^ (q - 1 - (u : Int)).toNat % q)) rs.length) q
def toldP (xs rs : List Int) (q : Int) (k : Nat) : List Int := (List.range k).map fun (u : Nat) => toldAt xs rs q u
def toldL (xs rs : List Int) (q : Int) : List Int := toldP xs rs q rs.length
theorem toldP_succ (xs rs : List Int) (q : Int) (k : Nat) : toldP xs rs q (k + 1) = toldP xs rs q k ++ [toldAt xs rs q k] := by
  unfold toldP
  rw [List.range_succ, List.map_append]; rfl
theorem told_bd {xs rs : List Int} {q : Int} (hlen : rs.length ≤ 64) (hlx : xs.length = rs.length) (hx : ∀ x ∈ xs, 0 ≤ x ∧ x < q) (hq : 2 ≤ q) (hq2 : q ≤ 256) (u : Int) : Bd (preSum (fun s => xs.getD s 0 * (rs.getD s 0 ^ (q - 1 - u).toNat % q)) rs.length) := by
  have z := preSum_bound (f := fun s => xs.getD s 0 * (rs.getD s 0 ^ (q - 1 - u).toNat % q)) (B := 256 * 256) (n := rs.length) fun i hi => by
    have h1 := getD_all hx (by omega : i < xs.length)
    have h2 := Int.emod_nonneg (rs.getD i 0 ^ (q - 1 - u).toNat) (show q ≠ 0 by omega)
    have h3 := Int.emod_lt_of_pos (rs.getD i 0 ^ (q - 1 - u).toNat) (show 0 < q by omega)
    exact ⟨Int.mul_nonneg h1.1 h2, Int.mul_le_mul (by omega) (by omega) h2 (by decide)⟩
  exact bd_small (by omega) (by omega)
set_option maxHeartbeats 4000000 in
theorem told_spec (w mean mg mb) (news : Led) (v1 v2 : Value) (xs rs : List Int) (q : Int) (tq : Tok) (hl1 : ListIn news v1 xs) (hl2 : ListIn news v2 rs) (hlen : rs.length ≤ 64) (hlx : xs.length = rs.length) (hx : ∀ x ∈ xs, 0 ≤ x ∧ x < q) (hr : ∀ x ∈ rs, 0 ≤ x ∧ x < q) (hq : 2 ≤ q) (hq2 : q ≤ 256) (hnq : (rs.length : Int) < q) :
    SpecT w mean mg mb 244 [v1, v2, .int q tq] 8 243 241 news (fun r nw => ListNew news nw r (toldL xs rs q)) := by
  obtain ⟨l1, vs1, k1, rfl, hm1, hi1⟩ := hl1
  obtain ⟨l2, vs2, k2, rfl, hm2, hi2⟩ := hl2
  unfold SpecT
  k_fill
  intro dp un gd cn cs a ccd cl outer A₀ base h₀ L m s ps Q E B F X N hP ht hC hG T hk hd hu hret
  first | k_dflt ktr_enter | fail "enter"
  k_steps
  unfold Halt
  rename Fr h₀ _ _ _ => F0
  rename Fr _ _ _ _ => F1
  rename Top _ _ _ _ _ _ => T1
  have hCg := C_of F0 hC
  obtain ⟨_, _, M1⟩ := bmod_of_top T1
  refine ListComp_K F1 (by with_unfolding_all rfl) (by intro k acc; rfl) (by intro h; rfl) (by rfl) (by decide) (by intro K C; rfl) ?_
  k_steps
  rename IsRange _ _ _ _ _ _ _ _ => hr9
  rename News _ _ _ _ => N2
  rename Fr _ _ _ _ => F2
  have hP2 := N2 (241, tabObj ps) (by k_mem)
  refine CSrcK.of (n := rs.length) (fun nw0 i ys nw => (IntsAre ys (toldP xs rs q i)) ∧ (∃ ps', (241, tabObj ps') ∈ nw ∧ TriplesOk ps'.toList) ∧ (∀ p ∈ nw0, p.1 ≠ 241 → p ∈ nw)) rfl F2 N2 hr9 (by omega) hG ?h0 (fun i t I oI K oK C oC D ys nw s' E' hi hR hC9 hK9 F' N' off hnt hnC G' hos => ?turn) (fun C oC hne => ?mono) (fun ys nw C hR hne => ?fin)
  case h0 => exact ⟨.nil, ⟨ps, by k_mem, ht⟩, fun p hp _ => hp⟩
  case mono => exact ⟨.nil, ⟨ps, List.mem_cons_of_mem _ (by k_mem), ht⟩, fun p hp _ => List.mem_cons_of_mem _ hp⟩
  case turn =>
    obtain ⟨hI, ⟨ps2, hPn, ht2⟩, hsub⟩ := hR
    have m5 := keepT N2 (P := 241) (ps := ps) (by k_mem) hsub List.mem_cons_self (cell_neT (by assumption))
    have m4 := keepT N2 (P := 241) (ps := ps) (by k_mem) hsub (List.mem_cons_of_mem _ List.mem_cons_self) (cell_neT (by assumption))
    have m3 := keepT N2 (P := 241) (ps := ps) (by k_mem) hsub (List.mem_cons_of_mem _ (List.mem_cons_of_mem _ List.mem_cons_self)) (cell_neT (by assumption))
    have m2 := keepT N2 (P := 241) (ps := ps) (by k_mem) hsub (List.mem_cons_of_mem _ (List.mem_cons_of_mem _ (List.mem_cons_of_mem _ List.mem_cons_self))) (cell_neT (by assumption))
    have m1 := keepT N2 (P := 241) (ps := ps) (by k_mem) hsub (List.mem_cons_of_mem _ (List.mem_cons_of_mem _ (List.mem_cons_of_mem _ (List.mem_cons_of_mem _ List.mem_cons_self)))) (cell_neT (by assumption))
    have ml1 := keepT N2 (P := 241) (ps := ps) (by k_mem) hsub (List.mem_cons_of_mem _ (List.mem_cons_of_mem _ (List.mem_cons_of_mem _ (List.mem_cons_of_mem _ (List.mem_cons_of_mem _ hm1))))) list_neT
    have ml2 := keepT N2 (P := 241) (ps := ps) (by k_mem) hsub (List.mem_cons_of_mem _ (List.mem_cons_of_mem _ (List.mem_cons_of_mem _ (List.mem_cons_of_mem _ (List.mem_cons_of_mem _ hm2))))) list_neT
    rename Frag.In _ _ => X1
    have N9 := newsTail3 N'
    refine wpAny_BinOp (wpAny_BinOp (wpAny_Name (wpAny_loadName_cell (by rfl) (by rfl) (by rfl) ⟨_, (N9 _ m5).1, by assumption⟩ ?_)))
    refine Call_ (LCgL.ld_built F' X1 T1 (by k_is) PyProof.Rows.boot_sum (by decide) ?_)
    refine callWith_builtin1 (args_cons (GeneratorExp_L F' M1 hCg (N9 _ hPn).2.2 (N9 _ hPn).2.1 (by with_unfolding_all rfl) (by rfl) (by with_unfolding_all rfl) (by with_unfolding_all rfl) (by decide) (by with_unfolding_all rfl) (by with_unfolding_all rfl) (by with_unfolding_all rfl) (by ktr_room) (by intro _; with_unfolding_all rfl) ?_))
    refine Call_ (LCgL.ld_built F' X1 T1 (by k_is) PyProof.Rows.boot_range (by decide) ?_)
    refine PyProof.Rows.callWith_type1 (args_cons (wpAny_Name (wpAny_loadName_cell (by rfl) (by rfl) (by rfl) ⟨_, (N9 _ m4).1, by assumption⟩ (args_nil ?_))))
    refine range1_rows F' N' fun h1 tk1 t1 u1 v1 hr1 Fr1 Nr1 kr1 => ?_
    have hnk : ∀ ps, oK ≠ tabObj ps := fun ps => cell_neT hK9
    have q5 := off_memT Nr1 (mem3 hPn) (mem3 m5) (cell_neT (by assumption))
    have q3 := off_memT Nr1 (mem3 hPn) (mem3 m3) (cell_neT (by assumption))
    have q2 := off_memT Nr1 (mem3 hPn) (mem3 m2) (cell_neT (by assumption))
    have q1 := off_memT Nr1 (mem3 hPn) (mem3 m1) (cell_neT (by assumption))
    have qk := off_memT Nr1 (mem3 hPn) (List.mem_cons_of_mem _ List.mem_cons_self) (hnk _)
    have qi := off_memT Nr1 (mem3 hPn) List.mem_cons_self (hnt _)
    have qd := off_memT Nr1 (mem3 hPn) (List.mem_cons_of_mem _ (List.mem_cons_of_mem _ List.mem_cons_self)) (by rintro ⟨⟩)
    have ql1 := off_memT Nr1 (mem3 hPn) (mem3 ml1) list_neT
    have ql2 := off_memT Nr1 (mem3 hPn) (mem3 ml2) list_neT
    have hCP : C ≠ 241 := ob_ne (N9 _ hPn).1 (N9 _ hC9).1 (hnC ps2)
    refine GSrc.mk _ _ _ _ rs.length _ ps2 (fun s => xs.getD s 0 * (rs.getD s 0 ^ (q - 1 - (i : Int)).toNat % q)) rfl hr1 (by omega) Fr1 Nr1 (mem3 hPn) ht2 G' T1.nolimit ?he (fun a s₅ ps' F5 N5 ht5 G5 hos5 X5 => ?fin2)
    case he =>
      intro code C2 A' E2 j t2 u m₂ hA hD hU hj hF hm9 hN9
      obtain ⟨tx, hx1⟩ := ints_getD hi1 (i := j) (by omega)
      obtain ⟨ty, hx2⟩ := ints_getD hi2 (i := j) (by omega)
      have hl1 := News.isList hN9 ql1
      have hl2 := News.isList hN9 ql2
      refine wpAny_BinOp (Subscript_ (wpAny_Name (wpAny_loadName_free (by rfl) (by rfl) (by rfl) ⟨_, (hN9 _ q1).1, by assumption⟩ (wpAny_Name (wpAny_loadName_local (by rfl) (by rfl) hF.ns hm9 ?_)))))
      refine tail_any hl1.typeIs slot_list_getitem.lookup (wpAny_getItem_list hl1 (by omega) (by omega) (by rw [Int.toNat_natCast, List.getElem?_toArray]; exact hx1) ?_) (by with_unfolding_all rfl)
      refine Call_ (Name_function_global (by rfl) (by rfl) (loadGlobal_builtin (show Heap.Ns _ mainGlobals mg from T1.g.keeps hF.keep) (mg_none_of X1 T1.g (by k_is)) (T1.b.keeps hF.keep) ((T1.builtins "pow" (by decide)).trans boot_pow) ?_))
      refine callWith_builtin1 (args_cons (Subscript_ (wpAny_Name (wpAny_loadName_free (by rfl) (by rfl) (by rfl) ⟨_, (hN9 _ q2).1, by assumption⟩ (wpAny_Name (wpAny_loadName_local (by rfl) (by rfl) hF.ns hm9 ?_))))))
      refine tail_any hl2.typeIs slot_list_getitem.lookup (wpAny_getItem_list hl2 (by omega) (by omega) (by rw [Int.toNat_natCast, List.getElem?_toArray]; exact hx2) ?_) (by with_unfolding_all rfl)
      refine args_cons (wpAny_BinOp (wpAny_BinOp (wpAny_Name (wpAny_loadName_free (by rfl) (by rfl) (by rfl) ⟨_, (hN9 _ q3).1, by assumption⟩ (wpAny_Constant_int (PyProof.Rows.sub_int ?_))))))
      refine wpAny_Name (wpAny_loadName_free (by rfl) (by rfl) (by rfl) ⟨_, (hN9 _ qk).1, hK9⟩ (PyProof.Rows.sub_int ?_))
      refine args_cons (wpAny_Name (wpAny_loadName_free (by rfl) (by rfl) (by rfl) ⟨_, (hN9 _ q3).1, by assumption⟩ (args_nil ?_)))
      refine call_pow3 (by omega) (by omega) ?_
      have h1 := getD_all hx (by omega : j < xs.length)
      have h2 := Int.emod_nonneg (rs.getD j 0 ^ (q - 1 - (i : Int)).toNat) (show q ≠ 0 by omega)
      have h3 := Int.emod_lt_of_pos (rs.getD j 0 ^ (q - 1 - (i : Int)).toNat) (show 0 < q by omega)
      refine PyProof.Rows.mul_int ?_ (mulOk_bd (bd_small (by omega) (by omega)) (bd_small (by omega) (by omega)))
      exact ⟨⟨_, rfl⟩, _, _, rfl, fun _ _ e => e⟩
    case fin2 =>
      refine args_nil (sum_L F5 N5 G5 X5 (fun s6 t6 F6 N6 G6 hos6 => ?_))
      have b1 := Int.emod_nonneg ((rs.length : Int) ^ (q - 2).toNat) (show q ≠ 0 by omega)
      have b2 := Int.emod_lt_of_pos ((rs.length : Int) ^ (q - 2).toNat) (show 0 < q by omega)
      refine PyProof.Rows.mul_int ?_ (mulOk_bd (bd_small (by omega) (by omega)) (told_bd hlen hlx hx hq hq2 _))
      refine wpAny_Name (wpAny_loadName_cell (by rfl) (by rfl) (by rfl) ⟨_, (N6 _ (List.mem_cons_of_mem _ q3)).1, by assumption⟩ (PyProof.Rows.mod_int (by omega) ?_))
      refine TEnd.mk ((241, tabObj ps') :: offP 241 nw) _ F6 N6 (List.mem_cons_of_mem _ qi) (List.mem_cons_of_mem _ qk) (List.mem_cons_of_mem _ qd) (fun p hp => ?_) (fun p hp => ?_) G6 (hos6.trans (hos5.trans hos)) ⟨List.mem_cons_of_mem _ (mem_offP hC9 hCP), ?_, ⟨ps', List.mem_cons_self, ht5⟩, fun p hp hne => List.mem_cons_of_mem _ (mem_offP (hsub p hp hne) hne)⟩
      · rcases List.mem_cons.mp hp with rfl | hp
        · exact List.mem_cons_self
        · exact List.mem_cons_of_mem _ (mem_offP (mem3 (of_offP hp).1) (of_offP hp).2)
      · rcases List.mem_cons.mp hp with rfl | hp
        · exact off (241, tabObj ps2) hPn
        · exact off p (of_offP hp).1
      · rw [toldP_succ]
        exact IntsAre.append hI (.cons _ _ .nil)
  case fin =>
    obtain ⟨hI, ⟨ps2, hPn, ht2⟩, hsub⟩ := hR
    have hCn : C ≠ 241 := fun q => hne (241, tabObj ps) (by k_mem) q.symm
    intro D s9 F9 N9 o9 G9 hos9
    k_steps
    rename News h₀ _ _ _ => N10
    rename Fr h₀ _ _ _ => F10
    have hmP : (241, tabObj ps2) ∈ offP C nw := mem_offP hPn (Ne.symm hCn)
    have keep : ∀ p ∈ news, p.1 ≠ 241 → p ∈ offP C nw := fun p hp hn => mem_offP (hsub p (by k_mem) hn) (hne p (by k_mem))
    refine hret _ ps2 _ _ F10 N10 (fun p hp hn => List.mem_cons_of_mem _ (keep p hp hn)) (List.mem_cons_of_mem _ hmP) ht2 G9 hos9 ⟨D, ys, _, rfl, List.mem_cons_self, hI, fun p hp => ?_⟩
    by_cases e : p.1 = 241
    · rw [e]; exact o9 _ hmP
    · exact o9 _ (keep p hp e)
end
end
section
local macro_rules | `(tactic| walk_at "getMethod ref") => `(tactic| (k_here; (with_reducible show wpAny _ _ (getMethod (Value.ref _) (PySem.Str.ofString "copy") _) _ _ _); k_dflt (refine' kl_method ?N ?m PySem.F.slot_list_copy PySem.F.type_list_copy ?_; (case N => k_asm); (case m => k_mem))))
local macro_rules | `(tactic| walk_at "call builtin:list.copy") => `(tactic| (k_here; k_dflt (refine' copy_L ?F ?N ?m ?_ ?hsz; (case F => k_asm); (case N => k_asm); (case m => k_mem); (case hsz => (have hI := IntsAre.length (by assumption : IntsAre _ _)); rw [PySem.sizeLine_eq]; (try simp only [List.length_cons] at hI); omega)); intro l' h' F' N' l1; have n9' := lt_ne9 l1; (try k_lt l1); (try k_sweep)))
section
local macro_rules | `(tactic| walk_at "call ref") => `(tactic| (k_here; (with_reducible show wpAny _ _ (call (Value.ref _) _) _ _ _); kco_here; k_dflt (refine wpAny_call ?_; refine' kco_code ?k1 ?k2 ?k3 ?k4 ?k5 ?k6 ?_; (case k1 => k_in); (case k2 => k_inst); (case k3 => rfl); (case k4 => k_is); (case k5 => k_is); (case k6 => k_is); (try dsimp only); (refine' Spec.use (ring_specL _ _ _ _ _ _ _ _ _ _ ?zhr ?zhlr ?zhlnr ?zhn) ?zB ?zF ?zX ?zN ?zT ?zhk ?zhd ?zhu ?_; walk_at "@c"; (case zhlr => exact ListIn.mk' (by k_mem) (by first | assumption | exact .cons _ _ .nil | exact .cons _ _ (.cons _ _ .nil) | l_ints)); (case zhlnr => first | omega | (simp only [List.length_map, List.length_zipWith, List.length_cons, List.length_nil, List.length_replicate, List.length_append, List.length_set]; omega)))); k_dflt (intro r' nw' h' tk' F' N' S' O'; obtain ⟨f', d', h1', k1', h2', k2', l', vs', k', c', e1', m1', m2', m3', i3', n3', n4'⟩ := O'; subst e1'); (try k_sweep)))
section
local macro_rules | `(tactic| walk_at "no such step") => `(tactic| fail "no such step")
theorem walkOff7 : True := by
  w_top off
  trivial
theorem lt_ne9 {l : Led} {d : Addr} (h : ∀ p ∈ l, p.1 < d) : ∀ p ∈ l, p.1 ≠ d := fun p hp => Nat.ne_of_lt (h p hp)
set_option maxHeartbeats 2000000 in
theorem addi_specL (w mean mg mb) (news : Led) (rg : Addr) (v : Value) (a0 : Int) (as : List Int) (x : Int) (t : Tok) (q : Int) (n : Nat) (hr : RingIn news rg q n) (hp : PolyIn news v rg (a0 :: as)) (hlen : as.length + 1 = n) (hn : n ≤ 64) (hq : 0 < q) :
    Spec w mean mg mb 137 [v, .int x t] 6 news (fun r nw => PolyNewF news nw r rg (Int.fmod (a0 + x) q :: as)) := by
  refine RingIn.elim hr ?_
  clear hr
  intro d h1 k1 h2 k2 tq tn c hr1 hr2
  refine PolyIn.elim hp ?_
  clear hp
  intro f df h3 k3 h4 k4 l vs k cf eP9 hp1 hp2 hp3 hi
  subst eP9
  unfold Spec
  k_fill
  intro dp un gd cn cs a ccd cl outer A₀ base h₀ L m s Q E B F X N T hk hd hu hret
  first | k_dflt ktr_enter | fail "enter"
  k_steps
  all_goals (refine hret _ _ _ _ (by k_asm) (by k_asm) (by intro p hp; k_mem) ?_)
  all_goals (refine ⟨_, _, _, _, _, _, _, _, _, _, rfl, by k_mem, by k_mem, by k_mem, ?_, ?_, ?_⟩)
  · (rename IntsAre _ (_ ++ List.replicate _ 0) => hI)
    simpa [← hlen] using hI
  · exact fun p hp => (by assumption : ∀ p ∈ _, p.1 ≠ _) p (by k_mem)
  · rename _ ∨ _ => hor
    rcases hor with rfl | hor
    · exact fun p hp => (by assumption : ∀ p ∈ _, p.1 ≠ _) p (by k_mem)
    · exact fun p hp => hor p (by k_mem)
end
end
theorem addi_spec (w mean mg mb) (news : Led) (rg : Addr) (v : Value) (a0 : Int) (as : List Int) (x : Int) (t : Tok) (q : Int) (n : Nat) (hr : RingIn news rg q n) (hp : PolyIn news v rg (a0 :: as)) (hlen : as.length + 1 = n) (hn : n ≤ 64) (hq : 0 < q) :
    Spec w mean mg mb 137 [v, .int x t] 6 news (fun r nw => PolyNew news nw r rg (Int.fmod (a0 + x) q :: as)) := by
  intro dp un gd cn cs a ccd cl outer A₀ base h₀ L m s Q E B F X N T hk hd hu hret
  refine Spec.use (addi_specL w mean mg mb news rg v a0 as x t q n hr hp hlen hn hq) B F X N T hk hd hu fun r nw h' tk' F' N' S' O => hret r nw h' tk' F' N' S' ?_
  obtain ⟨f, d, h1, k1, h2, k2, l', vs', k', c, e, m1, m2, m3, i, n1, _⟩ := O
  exact ⟨f, d, h1, k1, h2, k2, l', vs', k', c, e, m1, m2, m3, i, n1⟩
section
local macro_rules | `(tactic| walk_at "call ref") => `(tactic| (k_here; (with_reducible show wpAny _ _ (call (Value.ref _) _) _ _ _); kco_here; k_dflt (refine wpAny_call ?_; refine' kco_code ?k1 ?k2 ?k3 ?k4 ?k5 ?k6 ?_; (case k1 => k_in); (case k2 => k_inst); (case k3 => rfl); (case k4 => k_is); (case k5 => k_is); (case k6 => k_is); (try dsimp only); first
  | (refine' Spec.use (ring_spec _ _ _ _ _ _ _ _ _ _ ?zhr ?zhlr ?zhlnr ?zhn) ?zB ?zF ?zX ?zN ?zT ?zhk ?zhd ?zhu ?_; walk_at "@c"; (case zhlr => exact ListIn.mk' (by k_mem) (by first | assumption | exact .cons _ _ .nil | exact .cons _ _ (.cons _ _ .nil) | l_ints)); (case zhlnr => first | omega | (simp only [List.length_map, List.length_zipWith, List.length_cons, List.length_nil, List.length_replicate, List.length_append, List.length_set]; omega)))
  | (refine' Spec.use (ringi_spec _ _ _ _ _ _ _ _ _ _ ?zhr ?zh1n ?zhn) ?zB ?zF ?zX ?zN ?zT ?zhk ?zhd ?zhu ?_; walk_at "@c")); k_dflt (intro r' nw' h' tk' F' N' S' O'; refine PolyNew.elim O' ?_; clear O'; intro f' d' h1' k1' h2' k2' l' vs' k' c' e1' m1' m2' m3' i3' n3'; subst e1'); (try k_sweep)))
theorem walkOff8 : True := by
  w_top off
  trivial
set_option maxHeartbeats 8000000 in
theorem neg_spec (w mean mg mb) (news : Led) (rg : Addr) (v : Value) (as : List Int) (q : Int) (n : Nat) (hr : RingIn news rg q n) (hp : PolyIn news v rg as) (hlen : as.length = n) (hn : n ≤ 64) (hq : 0 < q) :
    Spec w mean mg mb 125 [v] 5 news (fun r nw => PolyNew news nw r rg (as.map fun x => Int.fmod (-x) q)) := by
  refine RingIn.elim hr ?_
  clear hr
  intro d h1 k1 h2 k2 tq tn c hr1 hr2
  refine PolyIn.elim hp ?_
  clear hp
  intro f df h3 k3 h4 k4 l vs k cf eP9 hp1 hp2 hp3 hi
  subst eP9
  unfold Spec
  k_fill
  intro dp un gd cn cs a ccd cl outer A₀ base h₀ L m s Q E B F X N T hk hd hu hret
  first | k_dflt ktr_enter | fail "enter"
  k_steps
  all_goals (refine hret _ _ _ _ (by k_asm) (by k_asm) (by intro p hp; k_mem) ?_)
  all_goals (refine ⟨_, _, _, _, _, _, _, _, _, _, rfl, by k_mem, by k_mem, by k_mem, ?_, ?_⟩)
  · (rename IntsAre _ (_ ++ List.replicate _ 0) => hI)
    simpa [hlen] using hI
  · exact fun p hp => (by assumption : ∀ p ∈ _ :: _ :: news, p.1 ≠ _) p (by k_mem)
section
local macro_rules | `(tactic| walk_at "call ref") => `(tactic| (k_here; (with_reducible show wpAny _ _ (call (Value.ref 120) _) _ _ _); k_dflt (refine wpAny_call ?_; refine' Spec.use (school_spec _ _ _ _ _ _ _ _ _ _ _ _ ?zhr ?zhp ?zhpu ?zhlen ?zhlen2 ?zh1n ?zhn ?zhq ?zhb ?zhb2) ?zB ?zF ?zX ?zN ?zT ?zhk ?zhd ?zhu ?_; walk_at "@c"); k_dflt (walk_at "@ls"); walk_at "@e"))
theorem walkOff9 : True := by
  w_top off
  trivial
set_option maxHeartbeats 4000000 in
theorem mul_spec (w mean mg mb) (news : Led) (rg : Addr) (v u : Value) (as bs : List Int) (q : Int) (n : Nat) (hr : RingIn news rg q n) (hp : PolyIn news v rg as) (hpu : PolyIn news u rg bs) (hlen : as.length = n) (hlen2 : bs.length = n) (h1n : 1 ≤ n) (hn : n ≤ 64) (hq : 0 < q) (hb : ∀ a ∈ as, Bd a) (hb2 : ∀ a ∈ bs, Bd a) :
    Spec w mean mg mb 182 [v, u] 5 news (fun r nw => PolyNew news nw r rg (mulq q n as bs)) := by
  refine RingIn.elim hr ?_
  clear hr
  intro d h1 k1 h2 k2 tq tn c hr1 hr2
  refine PolyIn.elim hp ?_
  clear hp
  intro f df h3 k3 h4 k4 l vs k cf eP9 hp1 hp2 hp3 hi
  subst eP9
  refine PolyIn.elim hpu ?_
  clear hpu
  intro f2 df2 h5 k5 h6 k6 l2 vs2 kk cf2 eP9 hp4 hp5 hp6 hi2
  subst eP9
  have hsb : (sbook as bs n).length = n := outer2_length as bs n (n - 1)
  unfold Spec
  k_fill
  intro dp un gd cn cs a ccd cl outer A₀ base h₀ L m s Q E B F X N T hk hd hu hret
  first | k_dflt ktr_enter | fail "enter"
  k_steps
  all_goals (refine hret _ _ _ _ (by k_asm) (by k_asm) (by intro p hp; k_mem) ?_)
  all_goals (refine ⟨_, _, _, _, _, _, _, _, _, _, rfl, by k_mem, by k_mem, by k_mem, ?_, ?_⟩)
  · (rename IntsAre _ (_ ++ List.replicate _ 0) => hI)
    simpa [hsb, mulq] using hI
  · exact fun p hp => (by assumption : ∀ p ∈ _, p.1 ≠ _) p (by k_mem)
end
theorem walkOff10 : True := by
  w_top off
  trivial
set_option maxHeartbeats 2000000 in
theorem subi_spec (w mean mg mb) (news : Led) (rg : Addr) (v : Value) (a0 : Int) (as : List Int) (x : Int) (t : Tok) (q : Int) (n : Nat) (hr : RingIn news rg q n) (hp : PolyIn news v rg (a0 :: as)) (hlen : as.length + 1 = n) (hn : n ≤ 64) (hq : 0 < q) :
    Spec w mean mg mb 163 [v, .int x t] 6 news (fun r nw => PolyNew news nw r rg (Int.fmod (a0 - x) q :: as)) := by
  refine RingIn.elim hr ?_
  clear hr
  intro d h1 k1 h2 k2 tq tn c hr1 hr2
  refine PolyIn.elim hp ?_
  clear hp
  intro f df h3 k3 h4 k4 l vs k cf eP9 hp1 hp2 hp3 hi
  subst eP9
  unfold Spec
  k_fill
  intro dp un gd cn cs a ccd cl outer A₀ base h₀ L m s Q E B F X N T hk hd hu hret
  first | k_dflt ktr_enter | fail "enter"
  k_steps
  all_goals (refine hret _ _ _ _ (by k_asm) (by k_asm) (by intro p hp; k_mem) ?_)
  all_goals (refine ⟨_, _, _, _, _, _, _, _, _, _, rfl, by k_mem, by k_mem, by k_mem, ?_, ?_⟩)
  · (rename IntsAre _ (_ ++ List.replicate _ 0) => hI)
    simpa [← hlen] using hI
  · exact fun p hp => (by assumption : ∀ p ∈ _, p.1 ≠ _) p (by k_mem)
section
local macro_rules | `(tactic| walk_at "exec Assign cons ListComp") => `(tactic| (k_here; k_dflt (refine Assign_ListComp_Z (by k_asm) (by rfl) (by with_unfolding_all rfl) (by with_unfolding_all rfl) (by decide) (by rfl) (by decide) (by rfl) (by rfl) (by decide) (by rfl) (by rfl) ?_)))
local macro_rules | `(tactic| walk_at "call type:zip") => `(tactic| (k_here; k_dflt (refine' zsrc_zip _ ?hh ?F ?N ?m1 ?m2 ?i1 ?i2 ?hl ?hs (fun a' b' ta' tb' C' oC' D' m' vs' h' tk' zn' E' ha' hb' hC' hx' hx2' F' S' N' => ?_) (fun h' => ?_); (case hh => exact rfl); (case F => k_asm); (case N => k_asm); (case m1 => k_mem); (case m2 => k_mem); (case i1 => l_ints); (case i2 => l_ints); (case hl => first | omega | (simp only [List.length_map, List.length_append, List.length_replicate]; omega)); (case hs => rw [PySem.sizeLine_eq]; first | omega | (simp only [List.length_map, List.length_append, List.length_replicate]; omega)); kcf_last)))
local macro_rules | `(tactic| walk_at "ZEnd") => `(tactic| (k_here; k_dflt (refine' ZEnd.intro ?e ?F ?N ?S; (case e => rfl); (case F => k_asm); (case N => k_asm); (case S => intro p hp; k_mem))))
local macro_rules | `(tactic| walk_at "ZFinA") => `(tactic| (k_here; k_dflt (unfold ZFinA; intro D' h' tk' vs' F' N' n' I'); (try k_sweep)))
theorem walkOff11 : True := by
  w_top off
  trivial
set_option maxHeartbeats 4000000 in
theorem add_spec (w mean mg mb) (news : Led) (rg : Addr) (v u : Value) (as bs : List Int) (q : Int) (n : Nat) (hr : RingIn news rg q n) (hp : PolyIn news v rg as) (hpu : PolyIn news u rg bs) (hlen : as.length = n) (hlen2 : bs.length = n) (hn : n ≤ 64) (hq : 0 < q) :
    Spec w mean mg mb 137 [v, u] 6 news (fun r nw => PolyNew news nw r rg (List.zipWith (fun x y => Int.fmod (x + y) q) as bs)) := by
  refine RingIn.elim hr ?_
  clear hr
  intro d h1 k1 h2 k2 tq tn c hr1 hr2
  refine PolyIn.elim hp ?_
  clear hp
  intro f df h3 k3 h4 k4 l vs k cf eP9 hp1 hp2 hp3 hi
  subst eP9
  refine PolyIn.elim hpu ?_
  clear hpu
  intro f2 df2 h5 k5 h6 k6 l2 vs2 kk cf2 eP9 hp4 hp5 hp6 hi2
  subst eP9
  unfold Spec
  k_fill
  intro dp un gd cn cs a ccd cl outer A₀ base h₀ L m s Q E B F X N T hk hd hu hret
  first | k_dflt ktr_enter | fail "enter"
  k_steps
  all_goals (refine hret _ _ _ _ (by k_asm) (by k_asm) (by intro p hp; k_mem) ?_)
  all_goals (refine ⟨_, _, _, _, _, _, _, _, _, _, rfl, by k_mem, by k_mem, by k_mem, ?_, ?_⟩)
  · (rename IntsAre _ (_ ++ List.replicate _ 0) => hI)
    first | simpa [hlen, hlen2] using hI | simpa [hlen] using hI
  · exact fun p hp => (by assumption : ∀ p ∈ _, p.1 ≠ _) p (by k_mem)
theorem walkOff12 : True := by
  w_top off
  trivial
set_option maxHeartbeats 4000000 in
theorem sub_spec (w mean mg mb) (news : Led) (rg : Addr) (v u : Value) (as bs : List Int) (q : Int) (n : Nat) (hr : RingIn news rg q n) (hp : PolyIn news v rg as) (hpu : PolyIn news u rg bs) (hlen : as.length = n) (hlen2 : bs.length = n) (hn : n ≤ 64) (hq : 0 < q) :
    Spec w mean mg mb 163 [v, u] 6 news (fun r nw => PolyNew news nw r rg (List.zipWith (fun x y => Int.fmod (x - y) q) as bs)) := by
  refine RingIn.elim hr ?_
  clear hr
  intro d h1 k1 h2 k2 tq tn c hr1 hr2
  refine PolyIn.elim hp ?_
  clear hp
  intro f df h3 k3 h4 k4 l vs k cf eP9 hp1 hp2 hp3 hi
  subst eP9
  refine PolyIn.elim hpu ?_
  clear hpu
  intro f2 df2 h5 k5 h6 k6 l2 vs2 kk cf2 eP9 hp4 hp5 hp6 hi2
  subst eP9
  unfold Spec
  k_fill
  intro dp un gd cn cs a ccd cl outer A₀ base h₀ L m s Q E B F X N T hk hd hu hret
  first | k_dflt ktr_enter | fail "enter"
  k_steps
  all_goals (refine hret _ _ _ _ (by k_asm) (by k_asm) (by intro p hp; k_mem) ?_)
  all_goals (refine ⟨_, _, _, _, _, _, _, _, _, _, rfl, by k_mem, by k_mem, by k_mem, ?_, ?_⟩)
  · (rename IntsAre _ (_ ++ List.replicate _ 0) => hI)
    first | simpa [hlen, hlen2] using hI | simpa [hlen] using hI
  · exact fun p hp => (by assumption : ∀ p ∈ _, p.1 ≠ _) p (by k_mem)
end
section
local macro_rules | `(tactic| walk_at "binaryOp Mult int int") => `(tactic| (k_here; (with_reducible show wpAny _ _ (binaryOp Operator.Mult (Value.int _ _) (Value.int _ _)) _ _ _); k_dflt (refine PyProof.Rows.mul_int ?_ (mulOk_bd (by first | assumption | exact bd_all2 (by assumption) (by assumption)) (by first | assumption | exact bd_all2 (by assumption) (by assumption))))))
theorem walkOff13 : True := by
  w_top off
  trivial
set_option maxHeartbeats 4000000 in
theorem muli_spec (w mean mg mb) (news : Led) (rg : Addr) (v : Value) (as : List Int) (x : Int) (t : Tok) (q : Int) (n : Nat) (hr : RingIn news rg q n) (hp : PolyIn news v rg as) (hlen : as.length = n) (hn : n ≤ 64) (hq : 0 < q) (hb : ∀ a ∈ as, Bd a) (hx : Bd x) :
    Spec w mean mg mb 182 [v, .int x t] 5 news (fun r nw => PolyNew news nw r rg (as.map fun c => Int.fmod (c * x) q)) := by
  refine RingIn.elim hr ?_
  clear hr
  intro d h1 k1 h2 k2 tq tn c hr1 hr2
  refine PolyIn.elim hp ?_
  clear hp
  intro f df h3 k3 h4 k4 l vs k cf eP9 hp1 hp2 hp3 hi
  subst eP9
  unfold Spec
  k_fill
  intro dp un gd cn cs a ccd cl outer A₀ base h₀ L m s Q E B F X N T hk hd hu hret
  first | k_dflt ktr_enter | fail "enter"
  k_steps
  all_goals (refine hret _ _ _ _ (by k_asm) (by k_asm) (by intro p hp; k_mem) ?_)
  all_goals (refine ⟨_, _, _, _, _, _, _, _, _, _, rfl, by k_mem, by k_mem, by k_mem, ?_, ?_⟩)
  · (rename IntsAre _ (_ ++ List.replicate _ 0) => hI)
    first | simpa [hlen, hlen2] using hI | simpa [hlen] using hI
  · exact fun p hp => (by assumption : ∀ p ∈ _, p.1 ≠ _) p (by k_mem)
section
local macro_rules | `(tactic| walk_at "call ref") => `(tactic| (k_here; (with_reducible show wpAny _ _ (call (Value.ref 182) [Value.ref _, Value.ref _]) _ _ _); k_dflt (refine wpAny_call ?_; refine' Spec.use (mul_spec _ _ _ _ _ _ _ _ _ _ _ _ ?zhr ?zhp ?zhpu ?zhlen ?zhlen2 ?zh1n ?zhn ?zhq ?zhb ?zhb2) ?zB ?zF ?zX ?zN ?zT ?zhk ?zhd ?zhu ?_; walk_at "@c"); k_dflt (walk_at "@pn"); walk_at "@e"))
section
local macro_rules | `(tactic| walk_at "exec While") => `(tactic| (k_here; refine halt_of ?_))
theorem walkOff14 : True := by
  w_top off
  trivial
/-- the power's loop, as the text has it -/
def powL (q : Int) (n : Nat) (g f : List Int) (e : Nat) : List Int :=
  if h : e = 0 then g else powL q n (if e % 2 = 1 then mulq q n g f else g) (mulq q n f f) (e / 2)
termination_by e
decreasing_by omega
theorem powL_zero (q : Int) (n : Nat) (g f : List Int) : powL q n g f 0 = g := by rw [powL]; simp
theorem powL_pos (q : Int) (n : Nat) (g f : List Int) {e : Nat} (h : 0 < e) : powL q n g f e = powL q n (if e % 2 = 1 then mulq q n g f else g) (mulq q n f f) (e / 2) := by
  rw [powL]; simp [Nat.ne_of_gt h]
theorem PolyIn.mono {a b : Led} {v : Value} {rg : Addr} {cs : List Int} (h : PolyIn a v rg cs) (s : Sub a b) : PolyIn b v rg cs := by
  obtain ⟨f, d, h1, k1, h2, k2, l, vs, k, c, e, m1, m2, m3, i⟩ := h
  exact ⟨f, d, h1, k1, h2, k2, l, vs, k, c, e, s _ m1, s _ m2, s _ m3, i⟩
theorem polyOf {nw : Led} {f d rg l : Addr} {h1 h2 : Int} {k1 k2 : Tok} {vs : List Value} {k c : Nat} {cs : List Int} (i : IntsAre vs cs) (m3 : (l, W.listOf (List.toArray vs) k) ∈ nw)
    (m2 : (d, W.dictOf [⟨h1, .str (Str.ofString "parent") k1, .ref rg⟩, ⟨h2, .str (Str.ofString "coeffs") k2, .ref l⟩] c) ∈ nw) (m1 : (f, instObj 220 d) ∈ nw) : PolyIn nw (.ref f) rg cs :=
  ⟨f, d, h1, k1, h2, k2, l, vs, k, c, rfl, m1, m2, m3, i⟩
theorem bd_mulq {q : Int} (h : 0 < q) (h2 : q ≤ 65536) (n : Nat) (a b : List Int) : ∀ x ∈ mulq q n a b, Bd x := bd_mapf h h2 (fun c => c) _
theorem mulq_length (q : Int) (n : Nat) (a b : List Int) : (mulq q n a b).length = n := by rw [mulq, List.length_map, sbook, outer2_length]
theorem bd_one (n : Nat) : ∀ x ∈ (1 : Int) :: List.replicate n 0, Bd x := fun x hx => by
  rcases List.mem_cons.mp hx with rfl | hx
  · exact bd_small (by decide) (by decide)
  · rw [(List.mem_replicate.mp hx).2]; exact bd_small (by decide) (by decide)
/-- what holds at the head of the power's loop -/
structure PowJ (news : Led) (rg : Addr) (q : Int) (n : Nat) (m₀ : Str → Option Value) (fin : List Int) (k : Nat) (m : Str → Option Value) (nw : Led) : Prop where
  ex : ∃ (e : Nat) (t : Tok) (fv gv : Value) (fs gs : List Int), k = e ∧ e < 2 ^ 62 ∧ (∀ z, m z = if z = Str.ofString "n" then some (.int (e : Int) t) else if z = Str.ofString "f" then some fv else if z = Str.ofString "g" then some gv else m₀ z) ∧
    PolyIn nw fv rg fs ∧ PolyIn nw gv rg gs ∧ fs.length = n ∧ gs.length = n ∧ (∀ a ∈ fs, Bd a) ∧ (∀ a ∈ gs, Bd a) ∧ Sub news nw ∧ powL q n gs fs e = fin
set_option maxHeartbeats 4000000 in
theorem pow_spec (w mean mg mb) (news : Led) (rg : Addr) (v : Value) (as : List Int) (q : Int) (n e : Nat) (t : Tok) (hr : RingIn news rg q n) (hp : PolyIn news v rg as) (hlen : as.length = n) (h1n : 1 ≤ n) (hn : n ≤ 64) (hq : 0 < q) (hq2 : q ≤ 65536) (hb : ∀ a ∈ as, Bd a) (he : e < 2 ^ 62) :
    Spec w mean mg mb 203 [v, .int (e : Int) t] 8 news (fun r nw => PolyIn nw r rg (powL q n (1 :: List.replicate (n - 1) 0) as e)) := by
  refine RingIn.elim hr ?_
  clear hr
  intro d h1 k1 h2 k2 tq tn c hr1 hr2
  refine PolyIn.elim hp ?_
  clear hp
  intro f df h3 k3 h4 k4 l vs k cf eP9 hp1 hp2 hp3 hi
  subst eP9
  unfold Spec
  k_fill
  intro dp un gd cn cs a ccd cl outer A₀ base h₀ L m s Q E B F X N T hk hd hu hret
  first | k_dflt ktr_enter | fail "enter"
  k_steps
  all_goals (try k_data)
  unfold Halt
  rename Fr _ _ _ _ => F9
  rename News _ _ _ _ => N9
  refine' While_inv2 (PowJ news rg q n _ (powL q n (1 :: List.replicate (n - 1) 0) as e)) (n₀ := e) F9 N9 ?hJ (fun k9 m1 nw1 h1 tk1 F1 N1 J1 => ?turn) ?hE
  case hE => passes_own
  case hJ =>
    refine ⟨e, t, .ref f, _, as, 1 :: List.replicate (n - 1) 0, rfl, he, ?_, ⟨_, _, _, _, _, _, _, _, _, _, rfl, by k_mem, by k_mem, by k_mem, by assumption⟩, ⟨_, _, _, _, _, _, _, _, _, _, rfl, by k_mem, by k_mem, by k_mem, by assumption⟩, hlen, by simp; omega, hb, bd_one _, by assumption, rfl⟩
    intro z
    split
    · next h => subst h; rfl
    split
    · next h => subst h; rfl
    split
    · next h => subst h; rfl
    · rfl
  case turn =>
    obtain ⟨e1, t1, fv, gv, fs, gs, rfl, he1, hm1, hpf, hpg, hlf, hlg, hbf, hbg, hS1, hfin⟩ := J1.ex
    have em := funext hm1
    subst em
    refine PolyIn.elim hpf ?_
    clear hpf
    intro f8 d8 h81 k81 h82 k82 l8 vs8 kk8 c8 eP9 m81 m82 m83 i8
    subst eP9
    refine PolyIn.elim hpg ?_
    clear hpg
    intro f7 d7 h71 k71 h72 k72 l7 vs7 kk7 c7 eP9 m71 m72 m73 i7
    subst eP9
    k_steps
    · rename Int.fmod (k9 : Int) 2 = 1 => hp9
      rename 0 < (k9 : Int) => hp8
      rw [Int.fmod_eq_emod_of_nonneg _ (by decide)] at hp9
      have hp7 : k9 % 2 = 1 := by omega
      rename IntsAre _ (mulq q n fs fs) => iF
      rename IntsAre _ (mulq q n gs fs) => iG
      refine' ⟨_, _, _, _, k9 / 2, rfl, by k_asm, by k_asm, by omega, ⟨k9 / 2, _, .ref _, .ref _, mulq q n fs fs, mulq q n gs fs, rfl, by omega, ?hm0, polyOf iF (by k_mem) (by k_mem) (by k_mem), polyOf iG (by k_mem) (by k_mem) (by k_mem), mulq_length q n fs fs, mulq_length q n gs fs, bd_mulq hq hq2 n fs fs, bd_mulq hq hq2 n gs fs, (by intro p hp; k_mem), ?fin0⟩⟩
      case hm0 =>
        have e9 : Int.fdiv (k9 : Int) 2 = ((k9 / 2 : Nat) : Int) := by rw [Int.fdiv_eq_ediv_of_nonneg _ (by decide)]; rfl
        rw [e9]
        intro z
        by_cases z1 : z = Str.ofString "n"
        · subst z1; rfl
        by_cases z2 : z = Str.ofString "f"
        · subst z2; rfl
        by_cases z3 : z = Str.ofString "g"
        · subst z3; rfl
        · simp only [if_neg z1, if_neg z2, if_neg z3]
      case fin0 => rw [← hfin, powL_pos q n gs fs (by omega : 0 < k9), if_pos hp7]
    · rename Int.fmod (k9 : Int) 2 ≠ 1 => hp9
      rename 0 < (k9 : Int) => hp8
      rw [Int.fmod_eq_emod_of_nonneg _ (by decide)] at hp9
      have hp7 : ¬ k9 % 2 = 1 := by omega
      rename IntsAre _ (mulq q n fs fs) => iF
      refine' ⟨_, _, _, _, k9 / 2, rfl, by k_asm, by k_asm, by omega, ⟨k9 / 2, _, .ref _, .ref _, mulq q n fs fs, gs, rfl, by omega, ?hm1, polyOf iF (by k_mem) (by k_mem) (by k_mem), polyOf i7 (by k_mem) (by k_mem) (by k_mem), mulq_length q n fs fs, hlg, bd_mulq hq hq2 n fs fs, hbg, (by intro p hp; k_mem), ?fin1⟩⟩
      case hm1 =>
        have e9 : Int.fdiv (k9 : Int) 2 = ((k9 / 2 : Nat) : Int) := by rw [Int.fdiv_eq_ediv_of_nonneg _ (by decide)]; rfl
        rw [e9]
        intro z
        by_cases z1 : z = Str.ofString "n"
        · subst z1; rfl
        by_cases z2 : z = Str.ofString "f"
        · subst z2; rfl
        by_cases z3 : z = Str.ofString "g"
        · subst z3; rfl
        · simp only [if_neg z1, if_neg z2, if_neg z3]
      case fin1 => rw [← hfin, powL_pos q n gs fs (by omega : 0 < k9), if_neg hp7]
    · refine hret _ _ _ _ (by k_asm) (by k_asm) hS1 ?_
      have e0 : k9 = 0 := by omega
      rw [← hfin, e0, powL_zero]
      exact ⟨_, _, _, _, _, _, _, _, _, _, rfl, by k_mem, by k_mem, by k_mem, by assumption⟩
theorem pow_specX (w mean mg mb) (news : Led) (rg : Addr) (v : Value) (as : List Int) (q : Int) (n e : Nat) (x : Int) (t : Tok) (hx : x = (e : Int)) (hr : RingIn news rg q n) (hp : PolyIn news v rg as) (hlen : as.length = n) (h1n : 1 ≤ n) (hn : n ≤ 64) (hq : 0 < q) (hq2 : q ≤ 65536) (hb : ∀ a ∈ as, Bd a) (he : e < 2 ^ 62) :
    Spec w mean mg mb 203 [v, .int x t] 8 news (fun r nw => PolyIn nw r rg (powL q n (1 :: List.replicate (n - 1) 0) as e)) := by
  subst hx; exact pow_spec w mean mg mb news rg v as q n e t hr hp hlen h1n hn hq hq2 hb he
theorem powL_ind {P : List Int → Prop} {q : Int} {n : Nat} (hm : ∀ a b, P (mulq q n a b)) : ∀ (e : Nat) (g f : List Int), P g → P (powL q n g f e) := by
  intro e
  induction e using Nat.strongRecOn with
  | ind e ih =>
    intro g f hg
    by_cases h : e = 0
    · subst h; rw [powL_zero]; exact hg
    · rw [powL_pos q n g f (by omega)]
      refine ih (e / 2) (by omega) _ _ ?_
      split
      · exact hm _ _
      · exact hg
theorem powL_len (q : Int) {n : Nat} (h1n : 1 ≤ n) {as : List Int} (_hlen : as.length = n) (e : Nat) : (powL q n (1 :: List.replicate (n - 1) 0) as e).length = n :=
  powL_ind (P := fun l => l.length = n) (fun a b => mulq_length q n a b) e _ _ (by simp; omega)
end
def sm : Nat → (Nat → Int) → Int
  | 0, _ => 0
  | k + 1, f => sm k f + f k
theorem sm_congr {f g : Nat → Int} : ∀ {k : Nat}, (∀ i, i < k → f i = g i) → sm k f = sm k g
  | 0, _ => rfl
  | k + 1, h => by rw [sm, sm, sm_congr fun i hi => h i (Nat.lt_succ_of_lt hi), h k (Nat.lt_succ_self k)]
theorem sm_add (f g : Nat → Int) : ∀ k, sm k (fun i => f i + g i) = sm k f + sm k g
  | 0 => rfl
  | k + 1 => by simp only [sm]; rw [sm_add f g k]; omega
theorem sm_sub (f g : Nat → Int) : ∀ k, sm k (fun i => f i - g i) = sm k f - sm k g
  | 0 => rfl
  | k + 1 => by simp only [sm]; rw [sm_sub f g k]; omega
theorem sm_neg (f : Nat → Int) : ∀ k, sm k (fun i => -f i) = -sm k f
  | 0 => rfl
  | k + 1 => by simp only [sm]; rw [sm_neg f k]; omega
theorem sm_zero : ∀ k, sm k (fun _ => 0) = 0
  | 0 => rfl
  | k + 1 => by simp only [sm]; rw [sm_zero k]; rfl
theorem sm_mul (c : Int) (f : Nat → Int) : ∀ k, sm k (fun i => c * f i) = c * sm k f
  | 0 => by simp [sm]
  | k + 1 => by simp only [sm]; rw [sm_mul c f k, Int.mul_add]
theorem sm_mul_r (c : Int) (f : Nat → Int) (k : Nat) : sm k (fun i => f i * c) = sm k f * c := by
  rw [Int.mul_comm, ← sm_mul]; exact sm_congr fun i _ => Int.mul_comm _ _
theorem sm_swap (f : Nat → Nat → Int) (m : Nat) : ∀ k, sm k (fun i => sm m (fun j => f i j)) = sm m (fun j => sm k (fun i => f i j))
  | 0 => by simp only [sm]; rw [sm_zero]
  | k + 1 => by simp only [sm]; rw [sm_swap f m k, sm_add]
theorem sm_succ_left (f : Nat → Int) : ∀ k, sm (k + 1) f = f 0 + sm k (fun i => f (i + 1))
  | 0 => by simp [sm]
  | k + 1 => by rw [sm, sm_succ_left f k, sm]; omega
theorem sm_rev (f : Nat → Int) : ∀ k, sm k f = sm k (fun i => f (k - 1 - i))
  | 0 => rfl
  | k + 1 => by
    rw [sm_succ_left, sm_rev (fun i => f (i + 1)) k, sm]
    have h : sm k (fun i => f (k - 1 - i + 1)) = sm k (fun i => f (k + 1 - 1 - i)) := sm_congr fun i hi => by
      have : k - 1 - i + 1 = k + 1 - 1 - i := by omega
      rw [this]
    rw [h]
    have : k + 1 - 1 - k = 0 := by omega
    rw [this]
    omega
theorem sm_cut (f : Nat → Int) {t : Nat} : ∀ {k : Nat}, t ≤ k → sm k (fun i => if i < t then f i else 0) = sm t f
  | 0, h => by
    obtain rfl : t = 0 := by omega
    rfl
  | k + 1, h => by
    by_cases e : t = k + 1
    · subst e
      exact sm_congr fun i hi => if_pos hi
    · rw [sm, sm_cut f (k := k) (by omega), if_neg (by omega)]; omega
theorem sm_dvd {q : Int} {f g : Nat → Int} : ∀ {k : Nat}, (∀ i, i < k → q ∣ f i - g i) → q ∣ sm k f - sm k g
  | 0, _ => ⟨0, by simp [sm]⟩
  | k + 1, h => by
    have h1 := sm_dvd (q := q) (f := f) (g := g) (k := k) fun i hi => h i (by omega)
    have h2 := h k (by omega)
    have e : sm (k + 1) f - sm (k + 1) g = (sm k f - sm k g) + (f k - g k) := by simp only [sm]; omega
    rw [e]
    exact Int.dvd_add h1 h2
/-- one turn of `n` steps changes the sign -/
def Anti (n : Nat) (F : Int → Int) : Prop := ∀ t, F (t + n) = -F t
def Per (n : Nat) (F : Int → Int) : Prop := ∀ t, F (t + n) = F t
theorem per_mul {n : Nat} {F G : Int → Int} (hF : Anti n F) (hG : Anti n G) (c : Int) : Per n fun i => F i * G (c - i) := fun t => by
  have h1 := hF t
  have h2 := hG (c - (t + n))
  have e : c - (t + n) + n = c - t := by omega
  rw [e] at h2
  show F (t + n) * G (c - (t + n)) = F t * G (c - t)
  rw [h1, h2, Int.neg_mul, Int.mul_neg]
theorem per_shift1 {n : Nat} {F : Int → Int} (h : Per n F) (c : Int) : sm n (fun i => F (c + i)) = sm n (fun i => F (c + 1 + i)) := by
  have a := sm_succ_left (fun i => F (c + i)) n
  have b : sm (n + 1) (fun i => F (c + i)) = sm n (fun i => F (c + i)) + F (c + n) := rfl
  have d : F (c + n) = F (c + (0 : Nat)) := by rw [h c]; congr 1; simp
  have e : sm n (fun i => F (c + ((i + 1 : Nat) : Int))) = sm n (fun i => F (c + 1 + i)) := sm_congr fun i _ => by
    congr 1; omega
  rw [e] at a
  rw [b] at a
  rw [d] at a
  omega
theorem per_shiftN {n : Nat} {F : Int → Int} (h : Per n F) : ∀ (k : Nat) (c : Int), sm n (fun i => F (c + i)) = sm n (fun i => F (c + k + i))
  | 0, c => sm_congr fun i _ => by congr 1; simp
  | k + 1, c => by
    rw [per_shiftN h k c, per_shift1 h (c + k)]
    exact sm_congr fun i _ => by congr 1; omega
theorem per_shift {n : Nat} {F : Int → Int} (h : Per n F) (c d : Int) : sm n (fun i => F (c + i)) = sm n (fun i => F (d + i)) := by
  rcases Int.le_total c d with hcd | hcd
  · rw [per_shiftN h (d - c).toNat c]
    exact sm_congr fun i _ => by congr 1; omega
  · rw [per_shiftN h (c - d).toNat d]
    exact sm_congr fun i _ => by congr 1; omega
theorem per_back {n : Nat} {F : Int → Int} (h : Per n F) (c d : Int) : sm n (fun i => F (c - i)) = sm n (fun i => F (d + i)) := by
  rw [sm_rev, ← per_shift h (c - (n - 1 : Int)) d]
  exact sm_congr fun i hi => by congr 1; omega
/-- the product of two antiperiodic functions -/
def cv (n : Nat) (F G : Int → Int) : Int → Int := fun t => sm n fun i => F i * G (t - i)
theorem cv_anti {n : Nat} {F G : Int → Int} (hG : Anti n G) : Anti n (cv n F G) := fun t => by
  show sm n _ = -sm n _
  rw [← sm_neg]
  refine sm_congr fun i _ => ?_
  have e : t + (n : Int) - i = t - i + n := by omega
  rw [e, hG, Int.mul_neg]
theorem cv_comm {n : Nat} {F G : Int → Int} (hF : Anti n F) (hG : Anti n G) (t : Int) : cv n F G t = cv n G F t := by
  have p := per_mul hG hF t
  have h := per_back p t 0
  show sm n (fun i => F i * G (t - i)) = sm n (fun i => G i * F (t - i))
  have e1 : sm n (fun i => F i * G (t - i)) = sm n (fun i : Nat => (fun j : Int => G j * F (t - j)) (t - i)) := sm_congr fun i _ => by
    show _ = G (t - i) * F (t - (t - i))
    have e : t - (t - (i : Int)) = i := by omega
    rw [e, Int.mul_comm]
  rw [e1, h]
  exact sm_congr fun i _ => by
    show G (0 + i) * F (t - (0 + i)) = _
    rw [Int.zero_add]
theorem cv_assoc {n : Nat} {F G H : Int → Int} (hG : Anti n G) (hH : Anti n H) (t : Int) : cv n (cv n F G) H t = cv n F (cv n G H) t := by
  show sm n (fun i => sm n (fun j => F j * G (i - j)) * H (t - i)) = sm n (fun j => F j * sm n (fun i => G i * H (t - j - i)))
  have e1 : sm n (fun i => sm n (fun j => F j * G (i - j)) * H (t - i)) = sm n (fun i => sm n (fun j => F j * (G (i - j) * H (t - i)))) :=
    sm_congr fun i _ => by
      rw [← sm_mul_r]
      exact sm_congr fun j _ => Int.mul_assoc _ _ _
  rw [e1, sm_swap]
  refine sm_congr fun j _ => ?_
  rw [sm_mul]
  congr 1
  have p := per_mul hG hH (t - j)
  have h := per_shift p (-j) 0
  have e2 : sm n (fun i => G (i - j) * H (t - i)) = sm n (fun i : Nat => (fun k : Int => G k * H (t - j - k)) (-j + i)) := sm_congr fun i _ => by
    show _ = G (-j + i) * H (t - j - (-j + i))
    have x : (i : Int) - j = -j + i := by omega
    have y : t - (i : Int) = t - j - (-j + i) := by omega
    rw [x, y]
  rw [e2, h]
  exact sm_congr fun i _ => by
    show G (0 + i) * H (t - j - (0 + i)) = _
    rw [Int.zero_add]
/-- two functions with one rest at each place -/
def Eqv (q : Int) (F G : Int → Int) : Prop := ∀ t, q ∣ F t - G t
theorem Eqv.refl {q : Int} (F : Int → Int) : Eqv q F F := fun t => ⟨0, by omega⟩
theorem Eqv.of_eq {q : Int} {F G : Int → Int} (h : ∀ t, F t = G t) : Eqv q F G := fun t => ⟨0, by rw [h t]; omega⟩
theorem Eqv.trans {q : Int} {F G H : Int → Int} (h : Eqv q F G) (k : Eqv q G H) : Eqv q F H := fun t => by
  have := Int.dvd_add (h t) (k t)
  have e : F t - G t + (G t - H t) = F t - H t := by omega
  rwa [e] at this
theorem dvd_mul_sub {q a b c d : Int} (h : q ∣ a - b) (k : q ∣ c - d) : q ∣ a * c - b * d := by
  have e : a * c - b * d = (a - b) * c + b * (c - d) := by
    rw [Int.sub_mul, Int.mul_sub]; omega
  rw [e]
  exact Int.dvd_add (Int.dvd_mul_of_dvd_left h) (Int.dvd_mul_of_dvd_right k)
theorem cv_eqv {q : Int} {n : Nat} {F F' G G' : Int → Int} (h : Eqv q F F') (k : Eqv q G G') : Eqv q (cv n F G) (cv n F' G') := fun t =>
  sm_dvd fun i _ => dvd_mul_sub (h i) (k (t - i))
/-- the row as a function of all places -/
def ext (n : Nat) (a : List Int) : Int → Int := fun t => (if (t / n) % 2 = 0 then 1 else -1) * a.getD (t % n).toNat 0
theorem ext_at {n : Nat} (a : List Int) {t : Nat} (h : t < n) : ext n a t = a.getD t 0 := by
  have h1 : (t : Int) / n = 0 := Int.ediv_eq_zero_of_lt (by omega) (by omega)
  have h2 : (t : Int) % n = t := Int.emod_eq_of_lt (by omega) (by omega)
  unfold ext
  rw [h1, h2]
  simp
theorem ext_anti {n : Nat} (hn : 1 ≤ n) (a : List Int) : Anti n (ext n a) := fun t => by
  have h1 : (t + (n : Int)) / n = t / n + 1 := by
    rw [Int.add_ediv_of_dvd_right ⟨1, by omega⟩, Int.ediv_self (by omega)]
  have h2 : (t + (n : Int)) % n = t % n := by simp
  unfold ext
  rw [h1, h2]
  by_cases e : t / (n : Int) % 2 = 0
  · rw [if_pos e, if_neg (by omega)]; omega
  · rw [if_neg e, if_pos (by omega)]; omega
theorem ext_back {n : Nat} (hn : 1 ≤ n) (a : List Int) {t i : Nat} (h1 : t < i) (h2 : i < n) : ext n a ((t : Int) - i) = -a.getD (n + t - i) 0 := by
  have h := ext_anti hn a ((t : Int) - i)
  have e : (t : Int) - i + n = ((n + t - i : Nat) : Int) := by omega
  rw [e, ext_at a (by omega)] at h
  omega
theorem anti_turn {n : Nat} {F G : Int → Int} (hF : Anti n F) (hG : Anti n G) {q : Int} : ∀ (k : Nat) (t : Int), (q ∣ F t - G t) ↔ q ∣ F (t + n * k) - G (t + n * k)
  | 0, t => by simp
  | k + 1, t => by
    rw [anti_turn hF hG k t]
    have e : t + (n : Int) * ((k + 1 : Nat) : Int) = t + n * k + n := by
      rw [Int.natCast_add, Int.mul_add]; omega
    rw [e, hF, hG]
    have e2 : -F (t + n * k) - -G (t + n * k) = -(F (t + n * k) - G (t + n * k)) := by omega
    rw [e2, Int.dvd_neg]
theorem eqv_of {n : Nat} (hn : 1 ≤ n) {q : Int} {F G : Int → Int} (hF : Anti n F) (hG : Anti n G) (h : ∀ t : Nat, t < n → q ∣ F t - G t) : Eqv q F G := fun t => by
  have hr1 := Int.emod_nonneg t (show (n : Int) ≠ 0 by omega)
  have hr2 := Int.emod_lt_of_pos t (show (0 : Int) < n by omega)
  have hd := Int.mul_ediv_add_emod t n
  have hk := h (t % n).toNat (by omega)
  rw [Int.toNat_of_nonneg hr1] at hk
  rcases Int.le_total 0 (t / n) with h0 | h0
  · have := (anti_turn hF hG (q := q) (t / n).toNat (t % n)).mp hk
    rw [Int.toNat_of_nonneg h0] at this
    have e : t % (n : Int) + n * (t / n) = t := by omega
    rwa [e] at this
  · refine (anti_turn hF hG (q := q) (-(t / n)).toNat t).mpr ?_
    rw [Int.toNat_of_nonneg (by omega)]
    have e : t + (n : Int) * -(t / n) = t % n := by rw [Int.mul_neg]; omega
    rwa [e]
theorem ext_eqv {n : Nat} (hn : 1 ≤ n) {q : Int} {a : List Int} {F : Int → Int} (hF : Anti n F) (h : ∀ t : Nat, t < n → q ∣ a.getD t 0 - F t) : Eqv q (ext n a) F :=
  eqv_of hn (ext_anti hn a) hF fun t ht => by rw [ext_at a ht]; exact h t ht
theorem dvd_fmod (x q : Int) : q ∣ Int.fmod x q - x := by
  have h := Int.fmod_add_mul_fdiv x q
  exact ⟨-Int.fdiv x q, by rw [Int.mul_neg]; omega⟩
theorem fmod_eq_of_dvd {x y q : Int} (hq : 0 < q) (h : q ∣ x - y) : Int.fmod x q = Int.fmod y q := by
  rw [Int.fmod_eq_emod_of_nonneg _ (by omega), Int.fmod_eq_emod_of_nonneg _ (by omega)]
  exact Int.emod_eq_emod_iff_emod_sub_eq_zero.mpr (Int.emod_eq_zero_of_dvd h)
theorem getD_set {l : List Int} {k t : Nat} {v : Int} (hk : k < l.length) : (l.set k v).getD t 0 = if t = k then v else l.getD t 0 := by
  simp only [List.getD_eq_getElem?_getD, List.getElem?_set]
  by_cases e : k = t
  · subst e; simp [hk]
  · rw [if_neg e, if_neg (fun h => e h.symm)]
theorem getD_rep (n t : Nat) : (List.replicate n (0 : Int)).getD t 0 = 0 := by
  simp only [List.getD_eq_getElem?_getD, List.getElem?_replicate]
  split <;> rfl
theorem inner1_at (a b : List Int) (i : Nat) {t : Nat} : ∀ (j : Nat) (c : List Int), i + j ≤ c.length →
    (inner1 a b i j c).getD t 0 = c.getD t 0 + (if i ≤ t ∧ t < i + j then a.getD i 0 * b.getD (t - i) 0 else 0)
  | 0, c, _ => by rw [inner1, if_neg (by omega)]; omega
  | j + 1, c, hc => by
    have ih := inner1_at a b i (t := t) j c (by omega)
    have hl := inner1_length a b i j c
    rw [inner1]
    rw [getD_set (by omega), ih]
    by_cases e : t = i + j
    · subst e
      have e1 : i + j - i = j := by omega
      rw [if_pos rfl, ih, if_neg (by omega), if_pos (by omega), e1]
      omega
    · rw [if_neg e]
      congr 1
      by_cases h : i ≤ t ∧ t < i + j
      · rw [if_pos h, if_pos (by omega)]
      · rw [if_neg h, if_neg (by omega)]
theorem outer1_len (a b : List Int) (n : Nat) : ∀ i, (outer1 a b n i).length = n
  | 0 => by rw [outer1, List.length_replicate]
  | i + 1 => by rw [outer1, inner1_length, outer1_len a b n i]
theorem outer1_at (a b : List Int) (n : Nat) {t : Nat} (ht : t < n) : ∀ i, i ≤ n → (outer1 a b n i).getD t 0 = sm i fun k => if k ≤ t then a.getD k 0 * b.getD (t - k) 0 else 0
  | 0, _ => by rw [outer1, getD_rep]; rfl
  | i + 1, hi => by
    rw [outer1, inner1_at a b i _ _ (by rw [outer1_len]; omega), outer1_at a b n ht i (by omega), sm]
    congr 1
    by_cases h : i ≤ t
    · rw [if_pos h, if_pos (by omega)]
    · rw [if_neg h, if_neg (by omega)]
theorem inner2_len (a b : List Int) (n j : Nat) : ∀ t c, (inner2 a b n j t c).length = c.length
  | 0, _ => rfl
  | t + 1, c => by
    rw [inner2]
    rw [List.length_set, inner2_len]
theorem inner2_at (a b : List Int) (n j : Nat) {t : Nat} : ∀ (k : Nat) (c : List Int), k ≤ c.length →
    (inner2 a b n j k c).getD t 0 = c.getD t 0 - (if t < k then a.getD (n - j + t) 0 * b.getD j 0 else 0)
  | 0, c, _ => by rw [inner2, if_neg (by omega)]; omega
  | k + 1, c, hc => by
    have ih := inner2_at a b n j (t := t) k c (by omega)
    have hl := inner2_len a b n j k c
    rw [inner2]
    rw [getD_set (by omega), ih]
    by_cases e : t = k
    · subst e
      rw [if_pos rfl, ih, if_neg (by omega), if_pos (by omega)]
      omega
    · rw [if_neg e]
      congr 1
      by_cases h : t < k
      · rw [if_pos h, if_pos (by omega)]
      · rw [if_neg h, if_neg (by omega)]
theorem outer2_len (a b : List Int) (n : Nat) : ∀ s, (outer2 a b n s).length = n
  | 0 => by rw [outer2, outer1_len]
  | s + 1 => by rw [outer2, inner2_len, outer2_len a b n s]
theorem outer2_at (a b : List Int) (n : Nat) {t : Nat} (ht : t < n) : ∀ s, s < n →
    (outer2 a b n s).getD t 0 = (outer1 a b n n).getD t 0 - sm (s + 1) fun k => if t < k then a.getD (n - k + t) 0 * b.getD k 0 else 0
  | 0, _ => by rw [outer2, sm, sm, if_neg (by omega)]; omega
  | s + 1, hs => by
    rw [outer2, inner2_at a b n (s + 1) _ _ (by rw [outer2_len]; omega), outer2_at a b n ht s (by omega)]
    have e : ∀ F : Nat → Int, sm (s + 1 + 1) F = sm (s + 1) F + F (s + 1) := fun _ => rfl
    rw [e]
    omega
theorem sbook_len (a b : List Int) (n : Nat) : (sbook a b n).length = n := outer2_len a b n _
theorem sbook_at (a b : List Int) (n : Nat) (hn : 1 ≤ n) {t : Nat} (ht : t < n) : (sbook a b n).getD t 0 = cv n (ext n b) (ext n a) t := by
  have e0 : n - 1 + 1 = n := by omega
  rw [sbook, outer2_at a b n ht (n - 1) (by omega), outer1_at a b n ht n (Nat.le_refl n), e0]
  have f1 : sm n (fun k => if k ≤ t then a.getD k 0 * b.getD (t - k) 0 else 0) = sm n (fun k => if k < t + 1 then b.getD k 0 * a.getD (t - k) 0 else 0) := by
    have c1 : sm n (fun k => if k ≤ t then a.getD k 0 * b.getD (t - k) 0 else 0) = sm n (fun k => if k < t + 1 then (fun k => a.getD k 0 * b.getD (t - k) 0) k else 0) :=
      sm_congr fun k _ => by
        by_cases h : k ≤ t
        · rw [if_pos h, if_pos (by omega)]
        · rw [if_neg h, if_neg (by omega)]
    rw [c1, sm_cut (fun k => a.getD k 0 * b.getD (t - k) 0) (by omega), sm_cut (fun k => b.getD k 0 * a.getD (t - k) 0) (by omega), sm_rev]
    exact sm_congr fun k hk => by
      have x : t + 1 - 1 - k = t - k := by omega
      have y : t - (t - k) = k := by omega
      rw [x, y, Int.mul_comm]
  rw [f1, ← sm_sub]
  refine sm_congr fun k hk => ?_
  rw [ext_at b hk]
  by_cases h : k < t + 1
  · rw [if_pos h, if_neg (by omega)]
    have e : (t : Int) - k = ((t - k : Nat) : Int) := by omega
    rw [e, ext_at a (by omega)]
    omega
  · have e : n - k + t = n + t - k := by omega
    rw [if_neg h, if_pos (by omega), ext_back hn a (by omega) hk, e, Int.mul_neg, Int.mul_comm]
    omega
theorem map_getD {f : Int → Int} (l : List Int) {t : Nat} (h : t < l.length) : (l.map f).getD t 0 = f (l.getD t 0) := by
  simp [List.getD_eq_getElem?_getD, List.getElem?_eq_getElem h]
theorem zip_getD {f : Int → Int → Int} (l k : List Int) {t : Nat} (h : t < l.length) (h' : t < k.length) : (List.zipWith f l k).getD t 0 = f (l.getD t 0) (k.getD t 0) := by
  simp [List.getD_eq_getElem?_getD, List.getElem?_zipWith, List.getElem?_eq_getElem h, List.getElem?_eq_getElem h']
theorem ext_mulq {q : Int} {n : Nat} (hn : 1 ≤ n) (a b : List Int) : Eqv q (ext n (mulq q n a b)) (cv n (ext n a) (ext n b)) :=
  ext_eqv hn (cv_anti (ext_anti hn b)) fun t ht => by
    rw [mulq, map_getD _ (by rw [sbook_len]; exact ht), ← cv_comm (ext_anti hn b) (ext_anti hn a), ← sbook_at a b n hn ht]
    exact dvd_fmod _ _
theorem map_mod_mod (q : Int) (a : List Int) : ((a.map fun c => Int.fmod c q).map fun c => Int.fmod c q) = a.map fun c => Int.fmod c q := by
  rw [List.map_map]
  exact List.map_congr_left fun x _ => by simp [Function.comp]
theorem mulq_len (q : Int) (n : Nat) (a b : List Int) : (mulq q n a b).length = n := by rw [mulq, List.length_map, sbook_len]
/-- powers -/
def un (n : Nat) : List Int := 1 :: List.replicate (n - 1) 0
theorem un_at (n t : Nat) : (un n).getD t 0 = if t = 0 then 1 else 0 := by
  cases t with
  | zero => rfl
  | succ t => show (List.replicate (n - 1) (0 : Int)).getD t 0 = _; rw [getD_rep]; rfl
theorem cv_un {n : Nat} (hn : 1 ≤ n) (F : Int → Int) (t : Int) : cv n (ext n (un n)) F t = F t := by
  have e : n = (n - 1) + 1 := by omega
  have h : sm n (fun i => ext n (un n) i * F (t - i)) = sm (n - 1 + 1) (fun i => if i < 1 then F t else 0) := by
    rw [← e]
    exact sm_congr fun i hi => by
      rw [ext_at _ hi, un_at]
      by_cases h : i = 0
      · subst h; rw [if_pos rfl, if_pos (by omega)]; simp
      · rw [if_neg h, if_neg (by omega)]; simp
  show sm n _ = _
  rw [h, sm_cut (fun _ => F t) (by omega)]
  simp [sm]
def pw (n : Nat) (F : Int → Int) : Nat → Int → Int
  | 0 => ext n (un n)
  | k + 1 => cv n (pw n F k) F
theorem pw_anti {n : Nat} (hn : 1 ≤ n) {F : Int → Int} (hF : Anti n F) : ∀ k, Anti n (pw n F k)
  | 0 => ext_anti hn _
  | _ + 1 => cv_anti hF
theorem pw_eqv {q : Int} {n : Nat} {F G : Int → Int} (h : Eqv q F G) : ∀ k, Eqv q (pw n F k) (pw n G k)
  | 0 => Eqv.refl _
  | k + 1 => cv_eqv (pw_eqv h k) h
theorem pw_sq {n : Nat} (hn : 1 ≤ n) {F : Int → Int} (hF : Anti n F) : ∀ (k : Nat) (t : Int), pw n (cv n F F) k t = pw n F (2 * k) t
  | 0, _ => rfl
  | k + 1, t => by
    have e : pw n (cv n F F) k = pw n F (2 * k) := funext fun t => pw_sq hn hF k t
    show cv n (pw n (cv n F F) k) (cv n F F) t = cv n (cv n (pw n F (2 * k)) F) F t
    rw [e, cv_assoc hF hF]
theorem ext_powL {q : Int} {n : Nat} (hn : 1 ≤ n) : ∀ (e : Nat) (g f : List Int), Eqv q (ext n (powL q n g f e)) (cv n (ext n g) (pw n (ext n f) e)) := by
  intro e
  induction e using Nat.strongRecOn with
  | ind e ih =>
    intro g f
    by_cases h : e = 0
    · subst h
      rw [powL_zero]
      refine Eqv.of_eq fun t => ?_
      rw [cv_comm (ext_anti hn g) (pw_anti hn (ext_anti hn f) 0)]
      exact (cv_un hn _ t).symm
    · rw [powL_pos q n g f (by omega)]
      refine (ih (e / 2) (by omega) _ _).trans ?_
      have s1 : Eqv q (pw n (ext n (mulq q n f f)) (e / 2)) (pw n (ext n f) (2 * (e / 2))) :=
        (pw_eqv (ext_mulq hn f f) _).trans (Eqv.of_eq fun t => pw_sq hn (ext_anti hn f) _ t)
      by_cases ho : e % 2 = 1
      · rw [if_pos ho]
        refine (cv_eqv (ext_mulq hn g f) s1).trans (Eqv.of_eq fun t => ?_)
        rw [cv_assoc (ext_anti hn f) (pw_anti hn (ext_anti hn f) _)]
        have x : cv n (ext n f) (pw n (ext n f) (2 * (e / 2))) = pw n (ext n f) e := funext fun t => by
          rw [cv_comm (ext_anti hn f) (pw_anti hn (ext_anti hn f) _)]
          show pw n (ext n f) (2 * (e / 2) + 1) t = _
          have : 2 * (e / 2) + 1 = e := by omega
          rw [this]
        rw [x]
      · rw [if_neg ho]
        have x : 2 * (e / 2) = e := by omega
        rw [x] at s1
        exact cv_eqv (Eqv.refl _) s1
/-- the generator: 0, 1 and the zeros -/
def gx (n : Nat) : List Int := 0 :: 1 :: List.replicate (n - 2) 0
theorem gx_at (n t : Nat) : (gx n).getD t 0 = if t = 1 then 1 else 0 := by
  match t with
  | 0 => rfl
  | 1 => rfl
  | t + 2 => show (List.replicate (n - 2) (0 : Int)).getD t 0 = _; rw [getD_rep]; rfl
theorem bd_gx (n : Nat) : ∀ x ∈ gx n, Bd x := fun x hx => by
  rcases List.mem_cons.mp hx with rfl | hx
  · exact bd_small (by omega) (by omega)
  · rcases List.mem_cons.mp hx with rfl | hx
    · exact bd_small (by omega) (by omega)
    · rw [(List.mem_replicate.mp hx).2]; exact bd_small (by omega) (by omega)
theorem cv_gx {n : Nat} (hn : 2 ≤ n) (F : Int → Int) (t : Int) : cv n (ext n (gx n)) F t = F (t - 1) := by
  show sm n _ = _
  have h : sm n (fun i => ext n (gx n) i * F (t - i)) = sm n (fun i => (if i < 2 then F (t - 1) else 0) - (if i < 1 then F (t - 1) else 0)) :=
    sm_congr fun i hi => by
      rw [ext_at _ hi, gx_at]
      by_cases h : i = 1
      · subst h; simp
      · by_cases h0 : i = 0
        · subst h0; simp
        · rw [if_neg h, if_neg (by omega), if_neg (by omega)]; simp
  rw [h, sm_sub, sm_cut (fun _ => F (t - 1)) (by omega : 2 ≤ n), sm_cut (fun _ => F (t - 1)) (by omega : 1 ≤ n)]
  simp [sm]
theorem walkOff15 : True := by
  w_top off
  trivial
set_option maxHeartbeats 4000000 in
theorem gen_spec (w mean mg mb) (news : Led) (rg : Addr) (q : Int) (n : Nat) (hr : RingIn news rg q n) (h2n : 2 ≤ n) (hn : n ≤ 64) :
    Spec w mean mg mb 49 [.ref rg] 5 news (fun r nw => PolyNew news nw r rg (gx n)) := by
  refine RingIn.elim hr ?_
  clear hr
  intro d h1 k1 h2 k2 tq tn c hr1 hr2
  unfold Spec
  k_fill
  intro dp un gd cn cs a ccd cl outer A₀ base h₀ L m s Q E B F X N T hk hd hu hret
  first | k_dflt ktr_enter | fail "enter"
  have h2l : ([0, 1] : List Int).length ≤ n := h2n
  k_steps
  all_goals (refine hret _ _ _ _ (by k_asm) (by k_asm) (by intro p hp; k_mem) ?_)
  all_goals (refine ⟨_, _, _, _, _, _, _, _, _, _, rfl, by k_mem, by k_mem, by k_mem, ?_, ?_⟩)
  · (rename IntsAre _ (_ ++ List.replicate _ 0) => hI)
    simpa [gx] using hI
  · exact fun p hp => (by assumption : ∀ p ∈ _, p.1 ≠ _) p (by k_mem)
/-- the numbers that a row of coefficients has at the roots -/
def evL (q : Int) (rs cs : List Int) : List Int := rs.map fun p => Int.fmod (preSum (fun i => cs.getD i 0 * p ^ i) cs.length) q
def Ev (q : Int) (n : Nat) (rs cs xs : List Int) : Prop := cs.length = n ∧ (∀ c ∈ cs, Bd c) ∧ xs = evL q rs cs
/-- the roots: as many as the places, each a root of X^n + 1, and the sums over them tell the coefficients back -/
structure RootsOk (q : Int) (n : Nat) (rs : List Int) : Prop where
  len : rs.length = n
  rng : ∀ p ∈ rs, 0 < p ∧ p < q
  nq : (n : Int) < q
  root : ∀ p ∈ rs, Int.fmod (p ^ n + 1) q = 0
  back : ∀ u, u < n → ∀ v, v < n → Int.fmod ((n : Int) ^ (q - 2).toNat * preSum (fun s => rs.getD s 0 ^ v * rs.getD s 0 ^ (q - 1 - (u : Int)).toNat) n) q = if u = v then 1 else 0
/-- the element that a turn makes and the numbers that stand for it -/
inductive NV (Ev : List Int → List Int → Prop) (rg : Addr) (m : Str → Option Value) (nw : Led) : Prop
  | mk (v w : Value) (cs xs : List Int) (e1 : m (Str.ofString "new") = some v) (e2 : m (Str.ofString "val") = some w) (hp : PolyIn nw v rg cs) (hl : ListIn nw w xs) (ev : Ev cs xs)
section
variable {q : Int} {n : Nat} {rs f g xs ys : List Int}
theorem Ev.len (h : Ev q n rs f xs) : f.length = n := h.1
theorem Ev.bd (h : Ev q n rs f xs) : ∀ c ∈ f, Bd c := h.2.1
theorem Ev.lenx (hr : RootsOk q n rs) (h : Ev q n rs f xs) : xs.length = n := by rw [h.2.2, evL, List.length_map, hr.len]
theorem Ev.rng (hq : 0 < q) (h : Ev q n rs f xs) : ∀ x ∈ xs, 0 ≤ x ∧ x < q := by
  rw [h.2.2]
  intro x hx
  obtain ⟨p, _, rfl⟩ := List.mem_map.mp hx
  exact ⟨fmod_lo _ hq, fmod_hi _ hq⟩
theorem bd_rng (hq2 : q ≤ 256) (h : ∀ x ∈ xs, 0 ≤ x ∧ x < q) : ∀ x ∈ xs, Bd x := fun x hx => bd_small (by have := h x hx; omega) (by have := h x hx; omega)
end
theorem preSum_sm (f : Nat → Int) : ∀ n, preSum f n = sm n f
  | 0 => rfl
  | n + 1 => by
    show preSum f n + f n = sm n f + f n
    rw [preSum_sm f n]
/-- the value of a row of n places at a number -/
def At (p : Int) (n : Nat) (F : Int → Int) : Int := sm n fun i => F i * p ^ i
theorem at_eqv {q p : Int} {n : Nat} {F G : Int → Int} (h : Eqv q F G) : q ∣ At p n F - At p n G :=
  sm_dvd fun i _ => by
    rw [← Int.sub_mul]
    exact Int.dvd_mul_of_dvd_left (h i)
theorem at_ext (p : Int) (n : Nat) (a : List Int) : At p n (ext n a) = sm n fun i => a.getD i 0 * p ^ i :=
  sm_congr fun i hi => by rw [ext_at a hi]
theorem dvd_tr {q a b c : Int} (h : q ∣ a - b) (k : q ∣ b - c) : q ∣ a - c := by
  have := Int.dvd_add h k
  have e : a - b + (b - c) = a - c := by omega
  rwa [e] at this
theorem dvd_sy {q a b : Int} (h : q ∣ a - b) : q ∣ b - a := by
  have := Int.dvd_neg.mpr h
  have e : -(a - b) = b - a := by omega
  rwa [e] at this
theorem at_shift {p : Int} {n : Nat} {F : Int → Int} (hF : Anti n F) : At p n (fun t => F (t - 1)) = p * At p n F - F (n - 1) * (p ^ n + 1) := by
  have a := sm_succ_left (fun t : Nat => F (t - 1) * p ^ t) n
  have b : sm (n + 1) (fun t : Nat => F (t - 1) * p ^ t) = At p n (fun t => F (t - 1)) + F (n - 1) * p ^ n := rfl
  have e : sm n (fun i => F (((i + 1 : Nat) : Int) - 1) * p ^ (i + 1)) = p * At p n F := by
    rw [At, ← sm_mul]
    refine sm_congr fun i _ => ?_
    have x : (((i + 1 : Nat) : Int) - 1) = i := by omega
    rw [x, Int.pow_succ, ← Int.mul_assoc, Int.mul_comm p]
  have z := hF (-1)
  have z2 : (-1 : Int) + n = n - 1 := by omega
  rw [z2] at z
  have z3 : (((0 : Nat) : Int) - 1) = -1 := by omega
  rw [b, e, z3, Int.pow_zero, Int.mul_one] at a
  rw [Int.mul_add, Int.mul_one]
  omega
theorem at_shifts {q p : Int} {n : Nat} {F : Int → Int} (hF : Anti n F) (hp : q ∣ p ^ n + 1) : ∀ i : Nat, q ∣ At p n (fun t => F (t - i)) - p ^ i * At p n F
  | 0 => by
    have e : (fun t : Int => F (t - ((0 : Nat) : Int))) = F := funext fun t => by congr 1; omega
    rw [e, Int.pow_zero, Int.one_mul]
    exact ⟨0, by omega⟩
  | i + 1 => by
    have ih := at_shifts hF hp i
    have h : Anti n (fun t => F (t - i)) := fun t => by
      have := hF (t - i)
      have e : t - (i : Int) + n = t + n - i := by omega
      rw [e] at this
      exact this
    have s := at_shift (p := p) h
    have e : (fun t : Int => F (t - ((i + 1 : Nat) : Int))) = fun t => (fun t : Int => F (t - i)) (t - 1) := funext fun t => by
      show F _ = F _
      congr 1; omega
    rw [e, s]
    have d1 : q ∣ p * At p n (fun t => F (t - i)) - p * (p ^ i * At p n F) := by
      rw [← Int.mul_sub]; exact Int.dvd_mul_of_dvd_right ih
    have e2 : p ^ (i + 1) * At p n F = p * (p ^ i * At p n F) := by
      rw [Int.pow_succ, Int.mul_comm (p ^ i) p, Int.mul_assoc]
    rw [e2]
    have d2 : q ∣ (fun t : Int => F (t - i)) (n - 1) * (p ^ n + 1) := Int.dvd_mul_of_dvd_right hp
    have := Int.dvd_sub d1 d2
    have e3 : ∀ a b c : Int, a - b - c = a - c - b := fun a b c => by omega
    rw [e3] at this
    exact this
theorem at_cv {q p : Int} {n : Nat} {F G : Int → Int} (hG : Anti n G) (hp : q ∣ p ^ n + 1) : q ∣ At p n (cv n F G) - At p n F * At p n G := by
  have e1 : At p n (cv n F G) = sm n fun i => F i * At p n (fun t => G (t - i)) := by
    show sm n (fun t => sm n (fun i => F i * G (t - i)) * p ^ t) = _
    have h : sm n (fun t => sm n (fun i => F i * G (t - i)) * p ^ t) = sm n (fun t : Nat => sm n (fun i => F i * (G (t - i) * p ^ t))) :=
      sm_congr fun t _ => by
        rw [← sm_mul_r]
        exact sm_congr fun i _ => Int.mul_assoc _ _ _
    rw [h, sm_swap (fun (t i : Nat) => F i * (G (t - i) * p ^ t))]
    exact sm_congr fun i _ => sm_mul _ _ _
  have e2 : At p n F * At p n G = sm n fun i => F i * (p ^ i * At p n G) := by
    rw [show At p n F = sm n fun i => F i * p ^ i from rfl, ← sm_mul_r]
    exact sm_congr fun i _ => Int.mul_assoc _ _ _
  rw [e1, e2]
  exact sm_dvd fun i _ => by
    rw [← Int.mul_sub]
    exact Int.dvd_mul_of_dvd_right (at_shifts hG hp i)
theorem dvd_fm {q x y : Int} (h : q ∣ x - y) : q ∣ Int.fmod x q - y := dvd_tr (dvd_fmod x q) h
theorem dvd_self0 (q x : Int) : q ∣ x - x := ⟨0, by omega⟩
theorem dvd_pow_sub {q a b : Int} (h : q ∣ a - b) : ∀ k : Nat, q ∣ a ^ k - b ^ k
  | 0 => by rw [Int.pow_zero, Int.pow_zero]; exact dvd_self0 q 1
  | k + 1 => by
    rw [Int.pow_succ, Int.pow_succ]
    exact dvd_mul_sub (dvd_pow_sub h k) h
theorem dvd_add2 {q a b c d : Int} (h : q ∣ a - b) (k : q ∣ c - d) : q ∣ (a + c) - (b + d) := by
  have := Int.dvd_add h k
  have e : a - b + (c - d) = a + c - (b + d) := by omega
  rwa [e] at this
theorem dvd_sub2 {q a b c d : Int} (h : q ∣ a - b) (k : q ∣ c - d) : q ∣ (a - c) - (b - d) := by
  have := Int.dvd_sub h k
  have e : a - b - (c - d) = a - c - (b - d) := by omega
  rwa [e] at this
section
variable {q : Int} {n : Nat} {rs f g k xs ys zs : List Int}
theorem evL_len : (evL q rs f).length = rs.length := by rw [evL, List.length_map]
theorem evL_at (hf : f.length = n) {s : Nat} (hs : s < rs.length) : (evL q rs f).getD s 0 = Int.fmod (At (rs.getD s 0) n (ext n f)) q := by
  rw [evL, map_getD _ hs]
  show Int.fmod (preSum (fun i => f.getD i 0 * rs.getD s 0 ^ i) f.length) q = _
  rw [hf, preSum_sm, at_ext]
theorem list_ext0 {a b : List Int} (h1 : a.length = n) (h2 : b.length = n) (h : ∀ s, s < n → a.getD s 0 = b.getD s 0) : a = b := by
  refine List.ext_getElem (h1.trans h2.symm) fun i hi hj => ?_
  have := h i (by omega)
  rw [List.getD_eq_getElem?_getD, List.getD_eq_getElem?_getD, List.getElem?_eq_getElem hi, List.getElem?_eq_getElem hj] at this
  exact this
theorem ev_mk (hr : RootsOk q n rs) (hq : 2 ≤ q) (hf : f.length = n) (hb : ∀ c ∈ f, Bd c) (hx : xs.length = n) (h : ∀ s, s < n → ∃ y, xs.getD s 0 = Int.fmod y q ∧ q ∣ At (rs.getD s 0) n (ext n f) - y) : Ev q n rs f xs := by
  refine ⟨hf, hb, list_ext0 hx (evL_len.trans hr.len) fun s hs => ?_⟩
  obtain ⟨y, e, d⟩ := h s hs
  rw [e, evL_at hf (by rw [hr.len]; exact hs)]
  exact fmod_eq_of_dvd (by omega) (dvd_sy d)
theorem Ev.at (hr : RootsOk q n rs) (a : Ev q n rs f xs) {s : Nat} (hs : s < n) : q ∣ xs.getD s 0 - At (rs.getD s 0) n (ext n f) := by
  rw [a.2.2, evL_at a.1 (by rw [hr.len]; exact hs)]
  exact dvd_fmod _ _
theorem RootsOk.dvd (hr : RootsOk q n rs) (hq : 2 ≤ q) {s : Nat} (hs : s < n) : q ∣ rs.getD s 0 ^ n + 1 := by
  have h := hr.root (rs.getD s 0) (by
    have hl := hr.len
    rw [List.getD_eq_getElem?_getD, List.getElem?_eq_getElem (by omega)]
    exact List.getElem_mem _)
  rw [Int.fmod_eq_emod_of_nonneg _ (by omega)] at h
  exact Int.dvd_of_emod_eq_zero h
theorem range_at {h : Nat → Int} {s : Nat} (hs : s < n) : ((List.range n).map h).getD s 0 = h s := by
  rw [List.getD_eq_getElem?_getD, List.getElem?_map, List.getElem?_range hs]; rfl
theorem bd_zip (hq : 2 ≤ q) (hq2 : q ≤ 256) (o : Int → Int → Int) : ∀ (f g : List Int), ∀ c ∈ List.zipWith (fun x y => Int.fmod (o x y) q) f g, Bd c
  | [], _, c, h => by simp at h
  | _ :: _, [], c, h => by simp at h
  | x :: f, y :: g, c, h => by
    rw [List.zipWith_cons_cons] at h
    rcases List.mem_cons.mp h with rfl | h
    · exact bd_fmod (by omega) (by omega)
    · exact bd_zip hq hq2 o f g c h
theorem at_map (o : Int → Int) (p : Int) (hf : f.length = n) : At p n (ext n (f.map o)) = sm n fun i => o (f.getD i 0) * p ^ i := by
  rw [at_ext]
  exact sm_congr fun i hi => by rw [map_getD _ (by omega)]
theorem at_zip (o : Int → Int → Int) (p : Int) (hf : f.length = n) (hg : g.length = n) : At p n (ext n (List.zipWith o f g)) = sm n fun i => o (f.getD i 0) (g.getD i 0) * p ^ i := by
  rw [at_ext]
  exact sm_congr fun i hi => by rw [zip_getD _ _ (by omega) (by omega)]
theorem sm_dvd_p {p : Int} {F G : Nat → Int} (h : ∀ i, i < n → q ∣ F i - G i) : q ∣ sm n (fun i => F i * p ^ i) - sm n (fun i => G i * p ^ i) :=
  sm_dvd fun i hi => by
    rw [← Int.sub_mul]
    exact Int.dvd_mul_of_dvd_left (h i hi)
theorem at_addf (p : Int) : sm n (fun i => (f.getD i 0 + g.getD i 0) * p ^ i) = At p n (ext n f) + At p n (ext n g) := by
  rw [at_ext, at_ext, ← sm_add]
  exact sm_congr fun i _ => Int.add_mul _ _ _
theorem at_subf (p : Int) : sm n (fun i => (f.getD i 0 - g.getD i 0) * p ^ i) = At p n (ext n f) - At p n (ext n g) := by
  rw [at_ext, at_ext, ← sm_sub]
  exact sm_congr fun i _ => Int.sub_mul _ _ _
theorem ev_add (hr : RootsOk q n rs) (hq : 2 ≤ q) (hq2 : q ≤ 256) (a : Ev q n rs f xs) (b : Ev q n rs g ys) : Ev q n rs (List.zipWith (fun x y => Int.fmod (x + y) q) f g) ((List.range n).map fun s => Int.fmod (xs.getD s 0 + ys.getD s 0) q) :=
  ev_mk hr hq (by rw [List.length_zipWith, a.1, b.1, Nat.min_self]) (bd_zip hq hq2 (· + ·) f g) (by simp) fun s hs => by
    refine ⟨xs.getD s 0 + ys.getD s 0, range_at hs, ?_⟩
    rw [at_zip _ _ a.1 b.1]
    refine dvd_tr (sm_dvd_p fun i _ => dvd_fmod _ _) ?_
    rw [at_addf]
    exact dvd_sy (dvd_add2 (a.at hr hs) (b.at hr hs))
theorem ev_sub (hr : RootsOk q n rs) (hq : 2 ≤ q) (hq2 : q ≤ 256) (a : Ev q n rs f xs) (b : Ev q n rs g ys) : Ev q n rs (List.zipWith (fun x y => Int.fmod (x - y) q) f g) ((List.range n).map fun s => Int.fmod (xs.getD s 0 - ys.getD s 0) q) :=
  ev_mk hr hq (by rw [List.length_zipWith, a.1, b.1, Nat.min_self]) (bd_zip hq hq2 (· - ·) f g) (by simp) fun s hs => by
    refine ⟨xs.getD s 0 - ys.getD s 0, range_at hs, ?_⟩
    rw [at_zip _ _ a.1 b.1]
    refine dvd_tr (sm_dvd_p fun i _ => dvd_fmod _ _) ?_
    rw [at_subf]
    exact dvd_sy (dvd_sub2 (a.at hr hs) (b.at hr hs))
theorem bd_mul (hq : 2 ≤ q) (hq2 : q ≤ 256) : ∀ c ∈ mulq q n f g, Bd c := bd_mapf (by omega) (by omega) (fun c => c) _
theorem ev_mul (hr : RootsOk q n rs) (h1n : 1 ≤ n) (hq : 2 ≤ q) (hq2 : q ≤ 256) (a : Ev q n rs f xs) (b : Ev q n rs g ys) : Ev q n rs (mulq q n f g) ((List.range n).map fun s => Int.fmod (xs.getD s 0 * ys.getD s 0) q) :=
  ev_mk hr hq (mulq_len ..) (bd_mul hq hq2) (by simp) fun s hs => by
    refine ⟨xs.getD s 0 * ys.getD s 0, range_at hs, ?_⟩
    refine dvd_tr (at_eqv (ext_mulq h1n f g)) (dvd_tr (at_cv (ext_anti h1n g) (hr.dvd hq hs)) ?_)
    exact dvd_sy (dvd_mul_sub (a.at hr hs) (b.at hr hs))
theorem at_un (h1n : 1 ≤ n) (p : Int) : At p n (ext n (un n)) = 1 := by
  rw [at_ext]
  have h : sm n (fun i => (un n).getD i 0 * p ^ i) = sm n fun i => if i < 1 then (fun i => p ^ i) i else 0 := sm_congr fun i _ => by
    rw [un_at]
    by_cases h : i = 0
    · rw [if_pos h, if_pos (by omega), Int.one_mul]
    · rw [if_neg h, if_neg (by omega), Int.zero_mul]
  rw [h, sm_cut (fun i => p ^ i) h1n]
  simp [sm]
theorem at_pw (h1n : 1 ≤ n) {p : Int} {F : Int → Int} (hF : Anti n F) (hp : q ∣ p ^ n + 1) : ∀ e, q ∣ At p n (pw n F e) - At p n F ^ e
  | 0 => by
    rw [Int.pow_zero]
    have : At p n (pw n F 0) = 1 := at_un h1n p
    rw [this]
    exact dvd_self0 q 1
  | e + 1 => by
    rw [Int.pow_succ]
    exact dvd_tr (at_cv (F := pw n F e) hF hp) (dvd_mul_sub (at_pw h1n hF hp e) (dvd_self0 q _))
theorem ev_pow (hr : RootsOk q n rs) (h1n : 1 ≤ n) (hq : 2 ≤ q) (hq2 : q ≤ 256) (e : Nat) (a : Ev q n rs f xs) : Ev q n rs (powL q n (1 :: List.replicate (n - 1) 0) f e) (xs.map fun v => v ^ e % q) :=
  ev_mk hr hq (powL_len q h1n a.1 _) (powL_ind (P := fun l => ∀ c ∈ l, Bd c) (fun _ _ => bd_mul hq hq2) _ _ _ (fun x hx => by
    rcases List.mem_cons.mp hx with rfl | hx
    · exact bd_small (by omega) (by omega)
    · rw [(List.mem_replicate.mp hx).2]; exact bd_small (by omega) (by omega))) (by rw [List.length_map, a.lenx hr]) fun s hs => by
    refine ⟨xs.getD s 0 ^ e, ?_, ?_⟩
    · rw [map_getD _ (by rw [a.lenx hr]; exact hs), Int.fmod_eq_emod_of_nonneg _ (by omega)]
    · refine dvd_tr (at_eqv (ext_powL h1n e _ f)) ?_
      have u : At (rs.getD s 0) n (cv n (ext n (1 :: List.replicate (n - 1) 0)) (pw n (ext n f) e)) = At (rs.getD s 0) n (pw n (ext n f) e) :=
        sm_congr fun i _ => by rw [show cv n (ext n (1 :: List.replicate (n - 1) 0)) (pw n (ext n f) e) i = _ from cv_un h1n _ i]
      rw [u]
      exact dvd_tr (at_pw h1n (ext_anti h1n f) (hr.dvd hq hs) e) (dvd_sy (dvd_pow_sub (a.at hr hs) e))
theorem ev_mapf (hr : RootsOk q n rs) (hq : 2 ≤ q) (hq2 : q ≤ 256) (o : Int → Int) (c : Int) (ho : ∀ x, o x = x * c) (a : Ev q n rs f xs) : Ev q n rs (f.map fun x => Int.fmod (o x) q) (xs.map fun v => Int.fmod (o v) q) :=
  ev_mk hr hq (by rw [List.length_map, a.1]) (bd_mapf (by omega) (by omega) o _) (by rw [List.length_map, a.lenx hr]) fun s hs => by
    refine ⟨o (xs.getD s 0), map_getD _ (by rw [a.lenx hr]; exact hs), ?_⟩
    rw [at_map (fun x => Int.fmod (o x) q) _ a.1]
    refine dvd_tr (sm_dvd_p (G := fun i => f.getD i 0 * c) fun i _ => by rw [← ho]; exact dvd_fmod _ _) ?_
    have e : sm n (fun i => f.getD i 0 * c * rs.getD s 0 ^ i) = At (rs.getD s 0) n (ext n f) * c := by
      rw [at_ext, ← sm_mul_r]
      exact sm_congr fun i _ => by rw [Int.mul_assoc, Int.mul_comm c, Int.mul_assoc]
    rw [e, ho]
    exact dvd_sy (dvd_mul_sub (a.at hr hs) (dvd_self0 q c))
theorem ev_neg (hr : RootsOk q n rs) (hq : 2 ≤ q) (hq2 : q ≤ 256) (a : Ev q n rs f xs) : Ev q n rs (f.map fun x => Int.fmod (-x) q) (xs.map fun v => Int.fmod (0 - v) q) := by
  have h := ev_mapf hr hq hq2 (fun x => -x) (-1) (fun x => by omega) a
  have e : (fun v : Int => Int.fmod (0 - v) q) = fun v => Int.fmod (-v) q := funext fun v => by rw [Int.zero_sub]
  rw [e]
  exact h
theorem ev_muli (hr : RootsOk q n rs) (hq : 2 ≤ q) (hq2 : q ≤ 256) (m : Int) (a : Ev q n rs f xs) : Ev q n rs (f.map fun x => Int.fmod (x * m) q) (xs.map fun v => Int.fmod (v * m) q) :=
  ev_mapf hr hq hq2 (fun x => x * m) m (fun _ => rfl) a
theorem ev_red (hq : 2 ≤ q) (hq2 : q ≤ 256) (a : Ev q n rs f xs) : Ev q n rs (f.map fun c => Int.fmod c q) xs := by
  refine ⟨by rw [List.length_map, a.1], bd_mapf (by omega) (by omega) (fun c => c) _, ?_⟩
  rw [a.2.2]
  unfold evL
  refine List.map_congr_left fun p _ => ?_
  rw [List.length_map]
  refine fmod_eq_of_dvd (by omega) (dvd_sy ?_)
  rw [preSum_sm, preSum_sm]
  exact sm_dvd_p fun i hi => by
    rw [map_getD _ hi]
    exact dvd_fmod _ _
theorem at_cons {a0 : Int} (p : Int) (hf : (a0 :: f).length = n) : At p n (ext n (a0 :: f)) = a0 + sm f.length fun i => f.getD i 0 * p ^ (i + 1) := by
  subst hf
  rw [at_ext, List.length_cons, sm_succ_left]
  show a0 * p ^ 0 + sm f.length (fun i => f.getD i 0 * p ^ (i + 1)) = _
  rw [Int.pow_zero, Int.mul_one]
theorem ev_addi {a0 : Int} (hr : RootsOk q n rs) (hq : 2 ≤ q) (hq2 : q ≤ 256) (m : Int) (a : Ev q n rs (a0 :: f) xs) : Ev q n rs (Int.fmod (a0 + m) q :: f) (xs.map fun v => Int.fmod (v + m) q) :=
  ev_mk hr hq a.1 (fun c hc => by
    rcases List.mem_cons.mp hc with rfl | hc
    · exact bd_fmod (by omega) (by omega)
    · exact a.2.1 c (List.mem_cons_of_mem _ hc)) (by rw [List.length_map, a.lenx hr]) fun s hs => by
    refine ⟨xs.getD s 0 + m, map_getD (f := fun v => Int.fmod (v + m) q) _ (by rw [a.lenx hr]; exact hs), ?_⟩
    have h := a.at hr hs
    rw [at_cons _ a.1] at h
    rw [at_cons (a0 := Int.fmod (a0 + m) q) _ a.1]
    have d := dvd_fmod (a0 + m) q
    have := Int.dvd_sub d h
    have e : ∀ u v w z : Int, u - (v + m) - (w - (v + z)) = u + z - (w + m) := fun u v w z => by omega
    rw [e] at this
    exact this
theorem ev_rsub {a0 : Int} (hr : RootsOk q n rs) (hq : 2 ≤ q) (hq2 : q ≤ 256) (m : Int) (a : Ev q n rs (a0 :: f) xs) : Ev q n rs ((Int.fmod (a0 - m) q :: f).map fun x => Int.fmod (-x) q) (xs.map fun v => Int.fmod (m - v) q) := by
  have h := ev_neg hr hq hq2 (ev_addi hr hq hq2 (-m) a)
  have e : ((xs.map fun v => Int.fmod (v + -m) q).map fun v => Int.fmod (0 - v) q) = xs.map fun v => Int.fmod (m - v) q := by
    rw [List.map_map]
    refine List.map_congr_left fun v _ => fmod_eq_of_dvd (by omega) ?_
    show q ∣ 0 - Int.fmod (v + -m) q - (m - v)
    have d := Int.dvd_neg.mpr (dvd_fmod (v + -m) q)
    have e : -(Int.fmod (v + -m) q - (v + -m)) = 0 - Int.fmod (v + -m) q - (m - v) := by omega
    rwa [e] at d
  rw [e] at h
  exact h
theorem app_at (f : List Int) (k i : Nat) : (f ++ List.replicate k 0).getD i 0 = f.getD i 0 := by
  rw [List.getD_eq_getElem?_getD, List.getD_eq_getElem?_getD, List.getElem?_append]
  split
  · rfl
  · rename_i h
    rw [List.getElem?_eq_none (by omega : f.length ≤ i), List.getElem?_replicate]
    split <;> rfl
theorem ev_row (hr : RootsOk q n rs) (hq : 2 ≤ q) (hb : ∀ x ∈ f, Bd x) (hl : f.length ≤ n) : Ev q n rs (f ++ List.replicate (n - f.length) 0) (rs.map fun p => Int.fmod (preSum (fun i => f.getD i 0 * p ^ i) f.length) q) := by
  have hlen : (f ++ List.replicate (n - f.length) 0).length = n := by rw [List.length_append, List.length_replicate]; omega
  refine ⟨hlen, fun c hc => ?_, ?_⟩
  · rcases List.mem_append.mp hc with h | h
    · exact hb c h
    · rw [(List.mem_replicate.mp h).2]; exact bd_small (by omega) (by omega)
  · unfold evL
    refine List.map_congr_left fun p _ => ?_
    rw [hlen, preSum_sm, preSum_sm, ← sm_cut (fun i => f.getD i 0 * p ^ i) hl]
    congr 1
    refine sm_congr fun i _ => ?_
    rw [app_at]
    by_cases h : i < f.length
    · rw [if_pos h]
    · rw [if_neg h, List.getD_eq_getElem?_getD, List.getElem?_eq_none (by omega), Option.getD_none, Int.zero_mul]
theorem ev_gen (hr : RootsOk q n rs) (hn : 2 ≤ n) (hq : 2 ≤ q) (hq2 : q ≤ 256) (a : Ev q n rs f xs) : Ev q n rs (mulq q n f (gx n)) ((List.range n).map fun s => Int.fmod (xs.getD s 0 * rs.getD s 0) q) :=
  ev_mk hr hq (mulq_len ..) (bd_mul hq hq2) (by simp) fun s hs => by
    refine ⟨xs.getD s 0 * rs.getD s 0, range_at hs, ?_⟩
    have h1n : 1 ≤ n := by omega
    refine dvd_tr (at_eqv (ext_mulq h1n f (gx n))) ?_
    have u : At (rs.getD s 0) n (cv n (ext n f) (ext n (gx n))) = At (rs.getD s 0) n (fun t => ext n f (t - ((1 : Nat) : Int))) :=
      sm_congr fun i _ => by
        rw [cv_comm (ext_anti h1n f) (ext_anti h1n (gx n)), cv_gx hn]; rfl
    rw [u]
    refine dvd_tr (at_shifts (ext_anti h1n f) (hr.dvd hq hs) 1) ?_
    rw [Int.pow_succ, Int.pow_zero, Int.one_mul, Int.mul_comm]
    exact dvd_sy (dvd_mul_sub (a.at hr hs) (dvd_self0 q _))
theorem at_one (p : Int) : At p 1 (ext 1 f) = f.getD 0 0 := by
  rw [at_ext]
  show 0 + f.getD 0 0 * p ^ 0 = _
  rw [Int.pow_zero]; omega
theorem ev_gen1 (hr : RootsOk q 1 rs) (hq : 2 ≤ q) (hq2 : q ≤ 256) (a : Ev q 1 rs f xs) : Ev q 1 rs (f.map fun x => Int.fmod (x * -1) q) ((List.range 1).map fun s => Int.fmod (xs.getD s 0 * rs.getD s 0) q) :=
  ev_mk hr hq (by rw [List.length_map, a.1]) (bd_mapf (by omega) (by omega) (fun x => x * -1) _) (by simp) fun s hs => by
    refine ⟨xs.getD s 0 * rs.getD s 0, range_at hs, ?_⟩
    have h := a.at hr hs
    have d := hr.dvd hq hs
    rw [at_one] at h
    rw [at_one, map_getD _ (by rw [a.1]; omega)]
    refine dvd_fm ?_
    refine dvd_sy (dvd_mul_sub h ?_)
    have e : rs.getD s 0 ^ 1 + 1 = rs.getD s 0 - -1 := by rw [Int.pow_succ, Int.pow_zero, Int.one_mul]; omega
    rwa [e] at d
theorem sm_delta (u : Nat) (h : Nat → Int) : ∀ k, u < k → sm k (fun v => h v * (if u = v then 1 else 0)) = h u
  | 0, hu => by omega
  | k + 1, hu => by
    rw [sm]
    by_cases e : u = k
    · subst e
      rw [if_pos rfl, Int.mul_one]
      have : sm u (fun v => h v * (if u = v then 1 else 0)) = sm u fun _ => 0 := sm_congr fun i hi => by rw [if_neg (by omega), Int.mul_zero]
      rw [this, sm_zero]; omega
    · rw [if_neg e, sm_delta u h k (by omega)]; omega
theorem dvd_emod (x q : Int) : q ∣ x % q - x := by
  have h := Int.emod_add_mul_ediv x q
  exact ⟨-(x / q), by rw [Int.mul_neg]; omega⟩
theorem ev_told (hr : RootsOk q n rs) (hq : 2 ≤ q) (a : Ev q n rs f xs) : toldL xs rs q = f.map fun c => Int.fmod c q := by
  have hlr := hr.len
  refine list_ext0 (n := n) (by rw [toldL, toldP, List.length_map, List.length_range, hlr]) (by rw [List.length_map, a.1]) fun u hu => ?_
  rw [map_getD _ (by rw [a.1]; exact hu), toldL, toldP, range_at (by omega), toldAt]
  refine fmod_eq_of_dvd (by omega) ?_
  rw [hlr, preSum_sm]
  have d1 : q ∣ (n : Int) ^ (q - 2).toNat % q * sm n (fun s => xs.getD s 0 * (rs.getD s 0 ^ (q - 1 - (u : Int)).toNat % q)) - (n : Int) ^ (q - 2).toNat * sm n (fun s => At (rs.getD s 0) n (ext n f) * rs.getD s 0 ^ (q - 1 - (u : Int)).toNat) :=
    dvd_mul_sub (dvd_emod _ q) (sm_dvd fun s hs => dvd_mul_sub (a.at hr hs) (dvd_emod _ q))
  refine dvd_tr d1 ?_
  have e1 : (n : Int) ^ (q - 2).toNat * sm n (fun s => At (rs.getD s 0) n (ext n f) * rs.getD s 0 ^ (q - 1 - (u : Int)).toNat) = sm n fun v => f.getD v 0 * ((n : Int) ^ (q - 2).toNat * sm n (fun s => rs.getD s 0 ^ v * rs.getD s 0 ^ (q - 1 - (u : Int)).toNat)) := by
    have z : sm n (fun s => At (rs.getD s 0) n (ext n f) * rs.getD s 0 ^ (q - 1 - (u : Int)).toNat) = sm n fun s : Nat => sm n fun v => f.getD v 0 * (rs.getD s 0 ^ v * rs.getD s 0 ^ (q - 1 - (u : Int)).toNat) :=
      sm_congr fun s _ => by
        rw [at_ext, ← sm_mul_r]
        exact sm_congr fun v _ => Int.mul_assoc _ _ _
    rw [z, sm_swap (fun s v => f.getD v 0 * (rs.getD s 0 ^ v * rs.getD s 0 ^ (q - 1 - (u : Int)).toNat)), ← sm_mul]
    refine sm_congr fun v _ => ?_
    rw [sm_mul, ← Int.mul_assoc, ← Int.mul_assoc, Int.mul_comm (f.getD v 0)]
  rw [e1]
  have e2 : f.getD u 0 = sm n fun v => f.getD v 0 * (if u = v then 1 else 0) := (sm_delta u (fun v => f.getD v 0) n hu).symm
  rw [e2]
  refine sm_dvd fun v hv => dvd_mul_sub (dvd_self0 q _) ?_
  have hb := hr.back u hu v hv
  rw [preSum_sm] at hb
  have := dvd_fmod ((n : Int) ^ (q - 2).toNat * sm n (fun s => rs.getD s 0 ^ v * rs.getD s 0 ^ (q - 1 - (u : Int)).toNat)) q
  rw [hb] at this
  exact dvd_sy this
theorem ev_sum3 {a0 : Int} (hr : RootsOk q n rs) (hq : 2 ≤ q) (hq2 : q ≤ 256) (a : Ev q n rs (a0 :: f) xs) (b : Ev q n rs g ys) (c : Ev q n rs k zs) : Ev q n rs (List.zipWith (fun x y => Int.fmod (x + y) q) (List.zipWith (fun x y => Int.fmod (x + y) q) (Int.fmod (a0 + 0) q :: f) g) k) ((List.range n).map fun s => Int.fmod (xs.getD s 0 + ys.getD s 0 + zs.getD s 0) q) := by
  have h := ev_add hr hq hq2 (ev_add hr hq hq2 (ev_addi hr hq hq2 0 a) b) c
  have e : ((List.range n).map fun s => Int.fmod (((List.range n).map fun s => Int.fmod ((xs.map fun v => Int.fmod (v + 0) q).getD s 0 + ys.getD s 0) q).getD s 0 + zs.getD s 0) q) = (List.range n).map fun s => Int.fmod (xs.getD s 0 + ys.getD s 0 + zs.getD s 0) q := by
    refine List.map_congr_left fun s hs => ?_
    have hs := List.mem_range.mp hs
    rw [range_at hs, map_getD _ (by rw [a.lenx hr]; exact hs)]
    refine fmod_eq_of_dvd (by omega) (dvd_add2 (dvd_fm (dvd_add2 (dvd_fm ?_) (dvd_self0 q _))) (dvd_self0 q _))
    rw [Int.add_zero]; exact dvd_self0 q _
  rw [e] at h
  exact h
end
/-- the roots as the law picks them -/
def rootsF (q : Int) (n : Nat) : List Int := ((List.range (q - 1).toNat).map fun (i : Nat) => (1 : Int) + i).filter fun p => decide (p ^ n % q = q - 1)
theorem roots_ok : ∀ {q : Int}, q ∈ ([17, 97, 113, 193, 241] : List Int) → ∀ {n : Nat}, n ∈ ([1, 2, 4, 8] : List Nat) → RootsOk q n (rootsF q n) := by
  intro q hq n hn
  simp only [List.mem_cons, List.not_mem_nil, or_false] at hq hn
  rcases hq with rfl | rfl | rfl | rfl | rfl <;> rcases hn with rfl | rfl | rfl | rfl <;> exact ⟨by decide +kernel, by decide +kernel, by decide +kernel, by decide +kernel, by decide +kernel⟩
section
local macro_rules | `(tactic| walk_at "eval ListComp") => `(tactic| (k_here; (with_reducible show wpAny _ _ (eval (Expr.ListComp _ _ _ _) _) _ _ _); k_dflt (refine LCg.ListComp_U (F₀ := by k_asm) (by with_unfolding_all rfl) (by decide) (by rfl) (by decide) (by rfl) ?_)))
local macro_rules | `(tactic| walk_at "@r") => `(tactic| ((case F | X => k_asm); (case I => k_inst); (case hD => exact rfl); (case hC | hS | hR | hF | hU => k_is); k_whole))
local macro_rules | `(tactic| walk_at "binaryOp Mult int ref") => `(tactic| (k_here; (with_reducible show wpAny _ _ (binaryOp Operator.Mult (Value.int _ _) (Value.ref _)) _ _ _); k_dflt (refine' binop_R PySem.F.fills_int_mul PySem.F.slot_int_mul PySem.F.entry_int_mul (PySem.F.args_int_mul_2 _ _) (int_ref ?hD _ _).1 ?F ?X ?I ?hC ?hS ?hR ?hF ?hU ?_; walk_at "@r")))
local macro_rules | `(tactic| walk_at "binaryOp Sub int ref") => `(tactic| (k_here; (with_reducible show wpAny _ _ (binaryOp Operator.Sub (Value.int _ _) (Value.ref _)) _ _ _); k_dflt (refine' binop_R PySem.F.fills_int_sub PySem.F.slot_int_sub PySem.F.entry_int_sub (PySem.F.args_int_sub_2 _ _) (int_ref ?hD _ _).2.2 ?F ?X ?I ?hC ?hS ?hR ?hF ?hU ?_; walk_at "@r")))
local macro_rules | `(tactic| walk_at "binaryOp Add int ref") => `(tactic| (k_here; (with_reducible show wpAny _ _ (binaryOp Operator.Add (Value.int _ _) (Value.ref _)) _ _ _); k_dflt (refine' binop_R PySem.F.fills_int_add PySem.F.slot_int_add PySem.F.entry_int_add (PySem.F.args_int_add_2 _ _) (int_ref ?hD _ _).2.1 ?F ?X ?I ?hC ?hS ?hR ?hF ?hU ?_; walk_at "@r")))
local macro_rules | `(tactic| walk_at "CompSrc") => `(tactic| (k_here; k_dflt (refine LCg.CompSrc.ledger (by rfl) (by k_asm) (by k_asm) (by k_mem) (by kcf_size) ?_; intro g'; (refine' kcf_list _ (by first | assumption | l_ints) (fun k' t' I' oI' C' oC' D' m' ys' h' tk' E' hk' hC' hx' F' N' off' ne' hMark' => ?_) ?_); (all_goals (try (simp only [LCg.Off3, and_true] at off'))); kcf_last)))
local macro_rules | `(tactic| walk_at "eval Call") => `(tactic| (k_here; (with_reducible show wpAny _ _ (eval (Expr.Call (Expr.Name _ _) _ [] _) _) _ _ _); k_dflt (refine Call_ ?_)))
local macro_rules | `(tactic| walk_at "eval Name") => `(tactic| (k_here; k_dflt (refine' nameX_L ?F ?v ?_ ?a ?b; (case F => k_asm); (case a => rfl); (case b => rfl); (case v => assumption); k_whole)))
local macro_rules | `(tactic| walk_at "call ref") => `(tactic| (k_here; (with_reducible show wpAny _ _ (call (Value.ref 137) [Value.ref _, Value.ref _]) _ _ _); k_dflt (refine wpAny_call ?_; refine' Spec.use (add_spec _ _ _ _ _ _ _ _ _ _ _ _ ?zhr ?zhp ?zhpu ?zhlen ?zhlen2 ?zhn ?zhq) ?zB ?zF ?zX ?zN ?zT ?zhk ?zhd ?zhu ?_; walk_at "@c"); k_dflt (walk_at "@pn"); walk_at "@e"))
local macro_rules | `(tactic| walk_at "call ref") => `(tactic| (k_here; (with_reducible show wpAny _ _ (call (Value.ref 137) [Value.ref _, Value.int _ _]) _ _ _); k_dflt (refine wpAny_call ?_; refine' Spec.use (addi_spec _ _ _ _ _ _ _ _ _ _ _ _ _ ?zhr ?zhp ?zhlen ?zhn ?zhq) ?zB ?zF ?zX ?zN ?zT ?zhk ?zhd ?zhu ?_; walk_at "@c"); k_dflt (walk_at "@pn"); walk_at "@e"))
local macro_rules | `(tactic| walk_at "call ref") => `(tactic| (k_here; (with_reducible show wpAny _ _ (call (Value.ref 163) [Value.ref _, Value.ref _]) _ _ _); k_dflt (refine wpAny_call ?_; refine' Spec.use (sub_spec _ _ _ _ _ _ _ _ _ _ _ _ ?zhr ?zhp ?zhpu ?zhlen ?zhlen2 ?zhn ?zhq) ?zB ?zF ?zX ?zN ?zT ?zhk ?zhd ?zhu ?_; walk_at "@c"); k_dflt (walk_at "@pn"); walk_at "@e"))
local macro_rules | `(tactic| walk_at "call ref") => `(tactic| (k_here; (with_reducible show wpAny _ _ (call (Value.ref 163) [Value.ref _, Value.int _ _]) _ _ _); k_dflt (refine wpAny_call ?_; refine' Spec.use (subi_spec _ _ _ _ _ _ _ _ _ _ _ _ _ ?zhr ?zhp ?zhlen ?zhn ?zhq) ?zB ?zF ?zX ?zN ?zT ?zhk ?zhd ?zhu ?_; walk_at "@c"); k_dflt (walk_at "@pn"); walk_at "@e"))
local macro_rules | `(tactic| walk_at "call ref") => `(tactic| (k_here; (with_reducible show wpAny _ _ (call (Value.ref 125) _) _ _ _); k_dflt (refine wpAny_call ?_; refine' Spec.use (neg_spec _ _ _ _ _ _ _ _ _ _ ?zhr ?zhp ?zhlen ?zhn ?zhq) ?zB ?zF ?zX ?zN ?zT ?zhk ?zhd ?zhu ?_; walk_at "@c"); k_dflt (walk_at "@pn"); walk_at "@e"))
local macro_rules | `(tactic| walk_at "call ref") => `(tactic| (k_here; (with_reducible show wpAny _ _ (call (Value.ref 182) [Value.ref _, Value.int _ _]) _ _ _); k_dflt (refine wpAny_call ?_; refine' Spec.use (muli_spec _ _ _ _ _ _ _ _ _ _ _ _ ?zhr ?zhp ?zhlen ?zhn ?zhq ?zhb ?zhx) ?zB ?zF ?zX ?zN ?zT ?zhk ?zhd ?zhu ?_; (case zhx => first | assumption | exact bd_small (by omega) (by omega)); walk_at "@c"); k_dflt (walk_at "@pn"); walk_at "@e"))
local macro_rules | `(tactic| walk_at "call ref") => `(tactic| (k_here; (with_reducible show wpAny _ _ (call (Value.ref 232) _) _ _ _); k_dflt (refine wpAny_call ?_; refine' SpecS.use (draw_spec _ _ _ _ _ _ _ _ ?zhsi ?zhsb ?zhsl _ _ ?zhk0 ?zhk1) ?zB ?zhS ?zF ?zX ?zN ?zT ?zhk ?zhd ?zhu ?_; (case zB | zhS | zF | zX | zN | zT => k_asm); (case zhk => first | exact rfl | assumption); (case zhd => ktr_room); (case zhu => ktr_units); (case zhsi => assumption); (case zhsb => assumption); (case zhsl => omega); (case zhk0 | zhk1 => omega)); k_dflt (intro r' nw' h' tk' F' N' S' O'; obtain ⟨x', t', e', xb'⟩ := O'; subst e'; (replace N' := newsDown N' S'); clear S'); k_dflt (first | refine cmpBack_ref ?_ | refine cmpBack_bool ?_ | skip); (try k_sweep)))
theorem walkOff16 : True := by
  w_top off
  trivial
section
variable {prog : Program} {w : World} {A : Around} {E : Value → Shared → Prop} {s : Shared}
theorem item_L {value slice : Expr} {l : Addr} {vs : List Value} {k kk : Nat} {t : Tok} {v : Value} {Q : Value → Shared → Prop} {h₀ : Heap} {L : Addr} {nw : Led} (N : News h₀ L s.heap nw) (hm : (l, W.listOf vs.toArray kk) ∈ nw) (hv : vs[k]? = some v) (hk : k < 1000) (h : Q v s)
    (hb : subscripted slice false (.ref l) (.int (k : Int) t) = operate [.ref l, .int (k : Int) t] (getItem (.ref l) (.int (k : Int) t)) := by with_unfolding_all rfl) : wpAny (model prog w) A (subscriptTail value slice (.ref l) (.int (k : Int) t)) Q E s := by
  have hl := News.isList N hm
  exact tail_any hl.typeIs slot_list_getitem.lookup (wpAny_getItem_list hl (by omega) (by omega) (by rw [Int.toNat_natCast, List.getElem?_toArray]; exact hv) h) hb
end
theorem K5.trans {a b c : Led} (h : K5 a b) (k : K5 b c) : K5 a c := ⟨fun p hp h1 h2 => k.1 p (h.1 p hp h1 h2) h1 h2, fun c v z => let ⟨v1, z1⟩ := h.2 c v z; k.2 c v1 z1⟩
theorem KC.trans {cs : List Addr} {a b c : Led} (h : KC cs a b) (k : KC cs b c) : KC cs a c := fun x v hx z => k x v hx (h x v hx z)
theorem KC.mono {cs ds : List Addr} {a b : Led} (h : KC cs a b) (k : ∀ c ∈ cs, c ∈ ds) : KC ds a b := fun x v hx z => h x v (fun hc => hx (k _ hc)) z
theorem S5.two {h₀ : Heap} {L : Addr} {m m2 : Str → Option Value} {news nw nw2 : Led} {s s' : Shared} {names : List Str} {cs : List Addr} {R : (Str → Option Value) → Led → Prop} (hk : K5 news nw) (hc : KC cs news nw) (t1 : Tab 234 nw) (t2 : Tab 241 nw) (F : Fr h₀ L s'.heap m2) (N : News h₀ L s'.heap nw2) (S : Sub nw nw2) (hm : ∀ z, names.contains z = false → m2 z = m z) (G : AllBare s'.gens) (hos : s'.os = s.os) (r : R m2 nw2) : S5 h₀ L m news s names cs R .next s' :=
  ⟨rfl, m2, nw2, F, N, hk.trans (.of_sub S), hc.trans (.of_sub S), t1.mono S, t2.mono S, hm, G, hos, r⟩
theorem cont2 {a b z : Str} (h : [a, b].contains z = false) : [a].contains z = false ∧ z ≠ b := by
  have h1 : z ≠ a := by rintro rfl; simp at h
  have h2 : z ≠ b := by rintro rfl; simp at h
  exact ⟨by simpa using fun e => h1 e, h2⟩
theorem newsTail {h₀ h : Heap} {L : Addr} {a : Addr × Obj} {nw : Led} (N : News h₀ L h (a :: nw)) : News h₀ L h nw := fun p hp => N p (List.mem_cons_of_mem _ hp)
theorem offE {L c : Addr} (i : Nat) (hc : c = Nat.add L i) (h : (i != 6 && i != 12) = true) : c ∉ [(L+1+1+1+1+1+1), (L+1+1+1+1+1+1+1+1+1+1+1+1)] := by
  subst hc
  intro h'
  simp only [List.mem_cons, List.not_mem_nil, or_false] at h'
  rcases h' with h' | h'
  · rw [show i = 6 from Nat.add_left_cancel h'] at h; cases h
  · rw [show i = 12 from Nat.add_left_cancel h'] at h; cases h
theorem S5.cells {h₀ : Heap} {L : Addr} {m : Str → Option Value} {news : Led} {s s' : Shared} {names : List Str} {cs ds : List Addr} {R : (Str → Option Value) → Led → Prop} {f : Flow} (h : S5 h₀ L m news s names cs R f s') (hd : ∀ c ∈ cs, c ∈ ds) : S5 h₀ L m news s names ds R f s' := by
  obtain ⟨hf, m', nw, F, N, hk, hc, t1, t2, hm, G, hos, r⟩ := h
  exact ⟨hf, m', nw, F, N, hk, hc.mono hd, t1, t2, hm, G, hos, r⟩
theorem RingIn.mono {a b : Led} {rg : Addr} {q : Int} {n : Nat} (h : RingIn a rg q n) (s : Sub a b) : RingIn b rg q n := by
  refine RingIn.elim h ?_
  clear h
  intro d h1 k1 h2 k2 tq tn c m1 m2
  exact ⟨d, h1, k1, h2, k2, tq, tn, c, s _ m1, s _ m2⟩
theorem bits_mulc {x u : Int} {B : Nat} (h : Builtin.Int.intBits x ≤ B) (hu : u.natAbs < 16) : Builtin.Int.intBits (u * x) ≤ B + 4 := by
  rw [bits_iff] at *
  rw [Int.natAbs_mul, Nat.pow_add, Nat.mul_comm]
  exact Nat.mul_lt_mul'' h hu
theorem bd_lin {m a u : Int} (hm : Builtin.Int.intBits m ≤ 2 ^ 20) (ha : Builtin.Int.intBits a ≤ 2 ^ 20) (hu : u.natAbs < 16) : Bd (m - u * a) :=
  bits_sub (a := 2 ^ 20) (b := 2 ^ 20 + 4) hm (bits_mulc ha hu) (by decide) (by decide)
theorem K5.ofT {h₀ h : Heap} {L P : Addr} {a b : Led} {ps : Array Value} (N : News h₀ L h a) (hP : (P, tabObj ps) ∈ a) (hs : ∀ p ∈ a, p.1 ≠ P → p ∈ b) : K5 a b := ⟨fun p hp h1 _ => hs p hp (ob_ne (N _ hP).1 (N _ hp).1 (h1 ps)), fun _ v ⟨o, hm, hd⟩ => ⟨v, o, hs _ hm (ob_ne (N _ hP).1 (N _ hm).1 (cell_neT hd)), hd⟩⟩
theorem KC.ofT {h₀ h : Heap} {L P : Addr} {cs : List Addr} {a b : Led} {ps : Array Value} (N : News h₀ L h a) (hP : (P, tabObj ps) ∈ a) (hs : ∀ p ∈ a, p.1 ≠ P → p ∈ b) : KC cs a b := fun _ _ _ ⟨o, hm, hd⟩ => ⟨o, hs _ hm (ob_ne (N _ hP).1 (N _ hm).1 (cell_neT hd)), hd⟩
theorem execs_S5 {M : Model} {A : Around} {E : Value → Shared → Prop} {s : Shared} {env : Env} {st : Stmt} {h₀ : Heap} {L : Addr} {m : Str → Option Value} {news : Led} {s0 : Shared} {names : List Str} {cs : List Addr} {R : (Str → Option Value) → Led → Prop}
    (h : wpAny M A (exec st env) (S5 h₀ L m news s0 names cs R) E s) : wpAny M A (execs [st] env) (S5 h₀ L m news s0 names cs R) E s := by
  refine wpAny_execs_cons (wpAny_mono h (fun f s' h => ?_) fun _ _ e => e)
  obtain ⟨rfl, m', nw, F, N, hk, hc, t1, t2, hm, G, hos, r⟩ := h
  exact wpAny_execs_nil ⟨rfl, m', nw, F, N, hk, hc, t1, t2, hm, G, hos, r⟩
theorem S5.toks {h₀ : Heap} {L : Addr} {m : Str → Option Value} {news : Led} {s s' : Shared} {tk : Nat} {names : List Str} {cs : List Addr} {R : (Str → Option Value) → Led → Prop} {f : Flow} (h : S5 h₀ L m news { s with toks := tk } names cs R f s') : S5 h₀ L m news s names cs R f s' := by
  obtain ⟨rfl, m', nw, F, N, hk, hc, t1, t2, hm, G, hos, r⟩ := h
  exact ⟨rfl, m', nw, F, N, hk, hc, t1, t2, hm, G, hos, r⟩
theorem if_op {prog : Program} {w : World} {A : Around} {E : Value → Shared → Prop} {s : Shared} {h₀ : Heap} {L a : Addr} {m : Str → Option Value} {cn : Str} {cs : Scope} {ccd : Value} {cl : List (Str × Addr)} {x : Str} {p1 p2 p3 p4 : Pos} {kd k c : Nat} {t : Tok} {body orelse : List Stmt} {news : Led} {names : List Str} {cds : List Addr} {R : (Str → Option Value) → Led → Prop}
    (F : Fr h₀ L s.heap m) (hv : m x = some (.int (k : Int) t)) (hk : cs.kind = .function) (hx : (envX cn cs L a ccd cl).kindOf x = some .local) (hd : (x == ("__debug__" : Str)) = false) (h1 : k = c → ∀ tk, wpAny (model prog w) A (execs body (envX cn cs L a ccd cl)) (S5 h₀ L m news { s with toks := tk } names cds R) E { s with toks := tk }) (h2 : k ≠ c → ∀ tk, wpAny (model prog w) A (execs orelse (envX cn cs L a ccd cl)) (S5 h₀ L m news { s with toks := tk } names cds R) E { s with toks := tk }) :
    wpAny (model prog w) A (exec (.If (.Compare (.Name x p1) [.Eq] [.Constant (.int (c : Int)) kd p2] p3) body orelse p4) (envX cn cs L a ccd cl)) (S5 h₀ L m news s names cds R) E s := by
  refine wpAny_If (wpAny_isTrue_Compare1 (wpAny_Name (loadName_L F hv (wpAny_Constant_int (PyProof.Rows.eq_int (wpAny_truthy_bool ?_))) hk hx) hd))
  by_cases e : k = c
  · rw [if_pos (by simp [e])]
    exact wpAny_mono (h1 e _) (fun _ _ h => h.toks) fun _ _ e => e
  · rw [if_neg (by simp only [beq_iff_eq]; omega)]
    exact wpAny_mono (h2 e _) (fun _ _ h => h.toks) fun _ _ e => e
section
open LCg
variable {prog : Program} {w : World} {A : Around} {E : Value → Shared → Prop} {s : Shared} {h₀ : Heap} {L : Addr} {m : Str → Option Value} {env : Env} {news : Led}
/-- a turn's end: a whole number, the heap as it was -/
inductive IEnd (s : Shared) (g : Int) (y : Value) (s₂ : Shared) : Prop
  | mk (t : Tok) (tk : Nat) (e : y = .int g t) (e2 : s₂ = { s with toks := tk })
/-- a range of n places -/
inductive RangeAt (h₀ : Heap) (L : Addr) (m : Str → Option Value) (news : Led) (s : Shared) (n : Nat) (xv : Value) (s₁ : Shared) : Prop
  | mk (r : Addr) (t u v : Tok) (h : Heap) (tk : Nat) (e : xv = .ref r) (e2 : s₁ = { s with heap := h, toks := tk }) (F : Fr h₀ L h m) (N : News h₀ L h news) (hr : IsRange h r 0 (n : Int) 1 t u v)
theorem rangeKs_map (n : Nat) (g : Nat → Int) : (rangeKs 0 n).map (fun k => g k.toNat) = (List.range n).map g := by
  unfold rangeKs
  rw [List.map_map]
  refine List.map_congr_left fun i _ => ?_
  simp
theorem Assign_R5 {elt iter : Expr} {x y : Str} {px py : Pos} {scope : Scope} {cl : List (Str × Addr)} {pos spos : Pos} {Q : Flow → Shared → Prop} (n : Nat) (g : Nat → Int) (hn : n ≤ 100) (F : Fr h₀ env.locals s.heap m)
    (hsw : swapsWith (.ListComp elt [⟨.Name x px, iter, [], 0⟩] scope pos) (some (.Name y py)) spos.line env = pure true)
    (hclos : closureFor scope env = pure cl) (hcell : ∀ z ∈ scope.names, z.2 ≠ .cell) (hkind : scope.kind = .function)
    (hnames : ∀ z ∈ scope.names, z.2 = .local → scope.names.lookup z.1 = some .local) (hx : scope.names.lookup x = some .local)
    (hy : env.kindOf y = some .local) (hp : (env.scope.kind == .class || (env.scope.kind == .module && env.locals != env.globals)) = false) (hs : ∀ x, foldedSetIterable iter env x = pure x)
    (hh : A.handled = none)
    (hi : wpAny (model prog w) A (eval iter env) (RangeAt h₀ env.locals m news s n) E s)
    (turn : ∀ (i : Nat) t C oC m₂ h tk (E' : Value → Shared → Prop), i < n → NsObj oC m₂ → m₂ x = some (.int (i : Int) t) → Fr h₀ env.locals h m → News h₀ env.locals h ((C, oC) :: news) →
      wpAny (model prog w) A (eval elt (compEnvC scope cl C env)) (IEnd { s with heap := h, toks := tk } (g i)) E' { s with heap := h, toks := tk })
    (fin : ∀ D h tk ys, Fr h₀ env.locals h (fun z => if z = y then some (.ref D) else m z) → News h₀ env.locals h ((D, lst ys) :: news) → IntsAre ys ((List.range n).map g) → Q .next { s with heap := h, toks := tk }) :
    wpAny (model prog w) A (exec (.Assign [.Name y py] (.ListComp elt [⟨.Name x px, iter, [], 0⟩] scope pos) spos) env) Q E s := by
  refine Assign_ListComp_U F rfl hsw hclos hcell hkind hnames hx hy hp (wpAny_mono hi (fun xv s₁ h₁ => ?_) fun _ _ e => e) hs
  obtain ⟨r, t, u, v, h, tk, rfl, rfl, F1, N1, hr⟩ := h₁
  refine CompSrc.range hh F1 N1 hr (small_one (by omega) (by omega) (by omega) (by omega)) (n := n) (by rw [rangeSize_nat]; omega) (by rw [PySem.sizeLine_eq]; omega) fun h2 => ?_
  refine kcf_range (fun k => g k.toNat) (fun k t I oI C oC D m₂ ys h tk' E' h0 h1 hC hx F' N' off ne mk => ?_) ?_
  · obtain ⟨i, rfl⟩ : ∃ i : Nat, k = (i : Int) := ⟨k.toNat, by omega⟩
    refine wpAny_mono (turn i t C oC m₂ h tk' E' (by omega) hC hx F' fun p hp => N' p ?_) (fun y s₂ h₂ => ?_) fun _ _ e => e
    · rcases List.mem_cons.mp hp with rfl | hp
      · exact List.mem_cons_of_mem _ List.mem_cons_self
      · exact List.mem_cons_of_mem _ (List.mem_cons_of_mem _ (List.mem_cons_of_mem _ hp))
    · obtain ⟨t', tk2, rfl, rfl⟩ := h₂
      exact CompEnd.intro F' N' news (fun p hp => hp) off trivial ⟨rfl, t', by rw [Int.toNat_natCast]⟩
  · intro ys hys D h tk F' N' _
    exact fin D h tk ys F' N' (by rw [← rangeKs_map]; exact hys)
theorem ListComp_R5 {elt iter : Expr} {x : Str} {px : Pos} {scope : Scope} {cl : List (Str × Addr)} {pos : Pos} {Q : Value → Shared → Prop} (n : Nat) (g : Nat → Int) (hn : n ≤ 100) (F : Fr h₀ L s.heap m)
    (hclos : closureFor scope env = pure cl) (hcell : ∀ z ∈ scope.names, z.2 ≠ .cell) (hkind : scope.kind = .function)
    (hnames : ∀ z ∈ scope.names, z.2 = .local → scope.names.lookup z.1 = some .local) (hx : scope.names.lookup x = some .local) (hs : ∀ x, foldedSetIterable iter env x = pure x)
    (hh : A.handled = none)
    (hi : wpAny (model prog w) A (eval iter env) (RangeAt h₀ L m news s n) E s)
    (turn : ∀ (i : Nat) t C oC m₂ h tk (E' : Value → Shared → Prop), i < n → NsObj oC m₂ → m₂ x = some (.int (i : Int) t) → Fr h₀ L h m → News h₀ L h ((C, oC) :: news) →
      wpAny (model prog w) A (eval elt (compEnvC scope cl C env)) (IEnd { s with heap := h, toks := tk } (g i)) E' { s with heap := h, toks := tk })
    (fin : ∀ D h tk ys, Fr h₀ L h m → News h₀ L h ((D, lst ys) :: news) → IntsAre ys ((List.range n).map g) → (∀ p ∈ news, p.1 ≠ D) → Q (.ref D) { s with heap := h, toks := tk }) :
    wpAny (model prog w) A (eval (.ListComp elt [⟨.Name x px, iter, [], 0⟩] scope pos) env) Q E s := by
  refine ListComp_U F hclos hcell hkind hnames hx (wpAny_mono hi (fun xv s₁ h₁ => ?_) fun _ _ e => e) hs
  obtain ⟨r, t, u, v, h, tk, rfl, rfl, F1, N1, hr⟩ := h₁
  refine CompSrc.range hh F1 N1 hr (small_one (by omega) (by omega) (by omega) (by omega)) (n := n) (by rw [rangeSize_nat]; omega) (by rw [PySem.sizeLine_eq]; omega) fun h2 => ?_
  refine kcf_range (fun k => g k.toNat) (fun k t I oI C oC D m₂ ys h tk' E' h0 h1 hC hx F' N' off ne mk => ?_) ?_
  · obtain ⟨i, rfl⟩ : ∃ i : Nat, k = (i : Int) := ⟨k.toNat, by omega⟩
    refine wpAny_mono (turn i t C oC m₂ h tk' E' (by omega) hC hx F' fun p hp => N' p ?_) (fun y s₂ h₂ => ?_) fun _ _ e => e
    · rcases List.mem_cons.mp hp with rfl | hp
      · exact List.mem_cons_of_mem _ List.mem_cons_self
      · exact List.mem_cons_of_mem _ (List.mem_cons_of_mem _ (List.mem_cons_of_mem _ hp))
    · obtain ⟨t', tk2, rfl, rfl⟩ := h₂
      exact CompEnd.intro F' N' news (fun p hp => hp) off trivial ⟨rfl, t', by rw [Int.toNat_natCast]⟩
  · intro ys hys D h tk F' N' off
    exact fin D h tk ys F' N' (by rw [← rangeKs_map]; exact hys) (off1_mem off)
theorem Assign_L5 {elt iter : Expr} {x y : Str} {px py : Pos} {scope : Scope} {cl : List (Str × Addr)} {pos spos : Pos} {Q : Flow → Shared → Prop} {l : Addr} {vs : List Value} {xs : List Int} {kk : Nat} (g : Int → Int) (hn : xs.length ≤ 100) (hm : (l, W.listOf vs.toArray kk) ∈ news) (hv : IntsAre vs xs) (F : Fr h₀ env.locals s.heap m) (N : News h₀ env.locals s.heap news)
    (hsw : swapsWith (.ListComp elt [⟨.Name x px, iter, [], 0⟩] scope pos) (some (.Name y py)) spos.line env = pure true)
    (hclos : closureFor scope env = pure cl) (hcell : ∀ z ∈ scope.names, z.2 ≠ .cell) (hkind : scope.kind = .function)
    (hnames : ∀ z ∈ scope.names, z.2 = .local → scope.names.lookup z.1 = some .local) (hx : scope.names.lookup x = some .local)
    (hy : env.kindOf y = some .local) (hp : (env.scope.kind == .class || (env.scope.kind == .module && env.locals != env.globals)) = false) (hs : ∀ x, foldedSetIterable iter env x = pure x)
    (hh : A.handled = none)
    (hi : wpAny (model prog w) A (eval iter env) (fun xv s₁ => xv = .ref l ∧ s₁ = s) E s)
    (turn : ∀ k t C oC m₂ h tk (E' : Value → Shared → Prop), k ∈ xs → NsObj oC m₂ → m₂ x = some (.int k t) → Fr h₀ env.locals h m → News h₀ env.locals h ((C, oC) :: news) →
      wpAny (model prog w) A (eval elt (compEnvC scope cl C env)) (IEnd { s with heap := h, toks := tk } (g k)) E' { s with heap := h, toks := tk })
    (fin : ∀ D h tk ys, Fr h₀ env.locals h (fun z => if z = y then some (.ref D) else m z) → News h₀ env.locals h ((D, lst ys) :: news) → IntsAre ys (xs.map g) → Q .next { s with heap := h, toks := tk }) :
    wpAny (model prog w) A (exec (.Assign [.Name y py] (.ListComp elt [⟨.Name x px, iter, [], 0⟩] scope pos) spos) env) Q E s := by
  refine Assign_ListComp_U F rfl hsw hclos hcell hkind hnames hx hy hp (wpAny_mono hi (fun xv s₁ h₁ => ?_) fun _ _ e => e) hs
  obtain ⟨rfl, rfl⟩ := h₁
  refine CompSrc.ledger hh F N hm (by rw [List.size_toArray, hv.length, PySem.sizeLine_eq]; omega) fun h2 => ?_
  refine kcf_list g hv (fun k t I oI C oC D m₂ ys h tk' E' hk hC hx F' N' off ne mk => ?_) ?_
  · refine wpAny_mono (turn k t C oC m₂ h tk' E' hk hC hx F' fun p hp => N' p ?_) (fun y s₂ h₂ => ?_) fun _ _ e => e
    · rcases List.mem_cons.mp hp with rfl | hp
      · exact List.mem_cons_of_mem _ List.mem_cons_self
      · exact List.mem_cons_of_mem _ (List.mem_cons_of_mem _ (List.mem_cons_of_mem _ hp))
    · obtain ⟨t', tk2, rfl, rfl⟩ := h₂
      exact CompEnd.intro F' N' news (fun p hp => hp) off (.inr ⟨_, hm, rfl, _, rfl⟩) ⟨rfl, t', rfl⟩
  · intro ys hys D h tk F' N' _
    exact fin D h tk ys F' N' hys
theorem ListComp_L5 {elt iter : Expr} {x : Str} {px : Pos} {scope : Scope} {cl : List (Str × Addr)} {pos : Pos} {Q : Value → Shared → Prop} {l : Addr} {vs : List Value} {xs : List Int} {kk : Nat} (g : Int → Int) (hn : xs.length ≤ 100) (hm : (l, W.listOf vs.toArray kk) ∈ news) (hv : IntsAre vs xs) (F : Fr h₀ L s.heap m) (N : News h₀ L s.heap news)
    (hclos : closureFor scope env = pure cl) (hcell : ∀ z ∈ scope.names, z.2 ≠ .cell) (hkind : scope.kind = .function)
    (hnames : ∀ z ∈ scope.names, z.2 = .local → scope.names.lookup z.1 = some .local) (hx : scope.names.lookup x = some .local) (hs : ∀ x, foldedSetIterable iter env x = pure x)
    (hh : A.handled = none)
    (hi : wpAny (model prog w) A (eval iter env) (fun xv s₁ => xv = .ref l ∧ ∃ tk, s₁ = { s with toks := tk }) E s)
    (turn : ∀ k t C oC m₂ h tk (E' : Value → Shared → Prop), k ∈ xs → NsObj oC m₂ → m₂ x = some (.int k t) → Fr h₀ L h m → News h₀ L h ((C, oC) :: news) →
      wpAny (model prog w) A (eval elt (compEnvC scope cl C env)) (IEnd { s with heap := h, toks := tk } (g k)) E' { s with heap := h, toks := tk })
    (fin : ∀ D h tk ys, Fr h₀ L h m → News h₀ L h ((D, lst ys) :: news) → IntsAre ys (xs.map g) → (∀ p ∈ news, p.1 ≠ D) → Q (.ref D) { s with heap := h, toks := tk }) :
    wpAny (model prog w) A (eval (.ListComp elt [⟨.Name x px, iter, [], 0⟩] scope pos) env) Q E s := by
  refine ListComp_U F hclos hcell hkind hnames hx (wpAny_mono hi (fun xv s₁ h₁ => ?_) fun _ _ e => e) hs
  obtain ⟨rfl, tk0, rfl⟩ := h₁
  refine CompSrc.ledger hh F N hm (by rw [List.size_toArray, hv.length, PySem.sizeLine_eq]; omega) fun h2 => ?_
  refine kcf_list g hv (fun k t I oI C oC D m₂ ys h tk' E' hk hC hx F' N' off ne mk => ?_) ?_
  · refine wpAny_mono (turn k t C oC m₂ h tk' E' hk hC hx F' fun p hp => N' p ?_) (fun y s₂ h₂ => ?_) fun _ _ e => e
    · rcases List.mem_cons.mp hp with rfl | hp
      · exact List.mem_cons_of_mem _ List.mem_cons_self
      · exact List.mem_cons_of_mem _ (List.mem_cons_of_mem _ (List.mem_cons_of_mem _ hp))
    · obtain ⟨t', tk2, rfl, rfl⟩ := h₂
      exact CompEnd.intro F' N' news (fun p hp => hp) off (.inr ⟨_, hm, rfl, _, rfl⟩) ⟨rfl, t', rfl⟩
  · intro ys hys D h tk F' N' off
    exact fin D h tk ys F' N' hys (off1_mem off)
end
section
local macro_rules | `(tactic| walk_at "call ref") => `(tactic| (k_here; (with_reducible show wpAny _ _ (call (Value.ref 137) [Value.ref _, Value.int _ _]) _ _ _); k_dflt (refine wpAny_call ?_; refine' Spec.use (addi_specL _ _ _ _ _ _ _ _ _ _ _ _ _ ?zhr ?zhp ?zhlen ?zhn ?zhq) ?zB ?zF ?zX ?zN ?zT ?zhk ?zhd ?zhu ?_; walk_at "@c"); k_dflt (intro r' nw' h' tk' F' N' S' O'; obtain ⟨f', d', h1', k1', h2', k2', l', vs', k', c', e1', m1', m2', m3', i3', n3', n4'⟩ := O'; subst e1'); walk_at "@e"))
theorem walkOff17 : True := by
  w_top off
  trivial
theorem push_fn {h₀ : Heap} {L : Addr} {s : Heap} {m : Str → Option Value} {news : Led} (F : Fr h₀ L s m) (N : News h₀ L s news) {o : Obj} (ho : o.isFreed = false) : Fr h₀ L (s.push o) m ∧ News h₀ L (s.push o) ((s.objs.size, o) :: news) := by
  refine ⟨F.push _, fun p hp => ?_⟩
  rcases List.mem_cons.mp hp with rfl | hp
  · exact ⟨Heap.get?_push_size _ ho, Ne.symm (Nat.ne_of_lt F.ns.lt), Heap.get?_none_of_le (Nat.le_of_lt (Nat.lt_of_le_of_lt F.above F.ns.lt))⟩
  · exact ⟨Heap.get?_push_of_some _ (N p hp).1, (N p hp).2⟩
/-- where the addition of a sum ends -/
inductive AEnd (h₀ : Heap) (L : Addr) (m : Str → Option Value) (s : Shared) (news : Led) (R : Value → Led → Prop) (r : Value) (s' : Shared) : Prop
  | mk (h : Heap) (tk : Nat) (nw : Led) (e : s' = { s with heap := h, toks := tk }) (F : Fr h₀ L h m) (N : News h₀ L h nw) (S : Sub news nw) (hr : R r nw)
set_option maxHeartbeats 4000000 in
theorem ysum0 (scope : Scope) (hsc : lawScope? PySem.Challenge.rw_xy0002_05.row.toRowW.prog = some scope)
    (w : World) (mean : ExcName → Option Value) (mg mb : Str → Option Value) (dp un : Nat) (gd : Option (List Code)) (a : Addr) (ccd : Value) (outer : List Env) (A₀ : Around) (base h₀ : Heap) (L : Addr) (m : Str → Option Value) (s : Shared) (E : Value → Shared → Prop) (news : Led)
    (rg : Addr) (n : Nat) (q : Int) (B : Below A₀ base outer h₀) (X : (hd05.heap_39 w.params).In h₀) (T : Top topProg (looseW Mine05.view [] ++ (recsOf Mine05.view).map (·.name) ++ (litsOf Mine05.view).map (·.1) ++ (clssOf Mine05.view (looseW Mine05.view [])).map (·.name)) mean mg mb h₀) (hdp : dp + 90 < recursionLimit) (hun : un + 750 < cLine)
    (h1n : 1 ≤ n) (hn : n ≤ 8) (hq : 2 ≤ q) (hq2 : q ≤ 256) (hr : RingIn news rg q n) (t : Tok) (v : Value) (a0 : Int) (as : List Int) (hl : as.length + 1 = n) (pf : PolyIn news v rg (a0 :: as)) (F : Fr h₀ L s.heap m) (N : News h₀ L s.heap news) :
    wpAny (model PySem.Challenge.rw_xy0002_05.row.toRowW.prog w) (ktrTop dp un gd (Str.ofString "law") scope L a ccd [(Str.ofString "e", L + 1 + 1 + 1 + 1 + 1 + 1 + 1 + 1 + 1 + 1 + 1 + 1), (Str.ofString "y", L + 1 + 1 + 1 + 1 + 1 + 1 + 1 + 1 + 1 + 1 + 1), (Str.ofString "x", L + 1 + 1 + 1 + 1 + 1 + 1 + 1 + 1 + 1 + 1), (Str.ofString "t", L + 1 + 1 + 1 + 1 + 1 + 1 + 1 + 1 + 1), (Str.ofString "m", L + 1 + 1 + 1 + 1 + 1 + 1 + 1 + 1), (Str.ofString "a", L + 1 + 1 + 1 + 1 + 1 + 1 + 1), (Str.ofString "row", L + 1 + 1 + 1 + 1 + 1 + 1), (Str.ofString "z", L + 1 + 1 + 1 + 1 + 1), (Str.ofString "vals", L + 1 + 1 + 1 + 1), (Str.ofString "roots", L + 1 + 1 + 1), (Str.ofString "n", L + 1 + 1), (Str.ofString "q", L + 1)] outer) (binaryOp .Add (.int 0 t) v) (AEnd h₀ L m s news fun r nw => PolyNewF news nw r rg (Int.fmod (a0 + 0) q :: as)) E s := by
  obtain rfl : _ = scope := Option.some.inj (hsc : some _ = some scope)
  clear hsc
  refine RingIn.elim hr ?_
  clear hr
  intro dr h1r k1r h2r k2r tqr tnr cr hr1 hr2
  obtain ⟨f, df, h3, k3, h4, k4, l, vs, k, cf, rfl, hp1, hp2, hp3, hi⟩ := pf
  revert X; k_fill; intro X
  k_steps
  exact ⟨_, _, _, rfl, by k_asm, by k_asm, by intro p hp; k_mem, ⟨_, _, _, _, _, _, _, _, _, _, rfl, by k_mem, by k_mem, by k_mem, by assumption, by assumption, by assumption⟩⟩
set_option maxHeartbeats 4000000 in
theorem ysum1 (scope : Scope) (hsc : lawScope? PySem.Challenge.rw_xy0002_05.row.toRowW.prog = some scope)
    (w : World) (mean : ExcName → Option Value) (mg mb : Str → Option Value) (dp un : Nat) (gd : Option (List Code)) (a : Addr) (ccd : Value) (outer : List Env) (A₀ : Around) (base h₀ : Heap) (L : Addr) (m : Str → Option Value) (s : Shared) (E : Value → Shared → Prop) (news : Led)
    (rg : Addr) (n : Nat) (q : Int) (B : Below A₀ base outer h₀) (X : (hd05.heap_39 w.params).In h₀) (T : Top topProg (looseW Mine05.view [] ++ (recsOf Mine05.view).map (·.name) ++ (litsOf Mine05.view).map (·.1) ++ (clssOf Mine05.view (looseW Mine05.view [])).map (·.name)) mean mg mb h₀) (hdp : dp + 90 < recursionLimit) (hun : un + 750 < cLine)
    (h1n : 1 ≤ n) (hn : n ≤ 8) (hq : 2 ≤ q) (hq2 : q ≤ 256) (hr : RingIn news rg q n) (v u : Value) (as bs : List Int) (hl : as.length = n) (hl2 : bs.length = n) (pf : PolyIn news v rg as) (pg : PolyIn news u rg bs) (F : Fr h₀ L s.heap m) (N : News h₀ L s.heap news) :
    wpAny (model PySem.Challenge.rw_xy0002_05.row.toRowW.prog w) (ktrTop dp un gd (Str.ofString "law") scope L a ccd [(Str.ofString "e", L + 1 + 1 + 1 + 1 + 1 + 1 + 1 + 1 + 1 + 1 + 1 + 1), (Str.ofString "y", L + 1 + 1 + 1 + 1 + 1 + 1 + 1 + 1 + 1 + 1 + 1), (Str.ofString "x", L + 1 + 1 + 1 + 1 + 1 + 1 + 1 + 1 + 1 + 1), (Str.ofString "t", L + 1 + 1 + 1 + 1 + 1 + 1 + 1 + 1 + 1), (Str.ofString "m", L + 1 + 1 + 1 + 1 + 1 + 1 + 1 + 1), (Str.ofString "a", L + 1 + 1 + 1 + 1 + 1 + 1 + 1), (Str.ofString "row", L + 1 + 1 + 1 + 1 + 1 + 1), (Str.ofString "z", L + 1 + 1 + 1 + 1 + 1), (Str.ofString "vals", L + 1 + 1 + 1 + 1), (Str.ofString "roots", L + 1 + 1 + 1), (Str.ofString "n", L + 1 + 1), (Str.ofString "q", L + 1)] outer) (binaryOp .Add v u) (AEnd h₀ L m s news fun r nw => PolyIn nw r rg (List.zipWith (fun x y => Int.fmod (x + y) q) as bs)) E s := by
  obtain rfl : _ = scope := Option.some.inj (hsc : some _ = some scope)
  clear hsc
  refine RingIn.elim hr ?_
  clear hr
  intro dr h1r k1r h2r k2r tqr tnr cr hr1 hr2
  obtain ⟨f, df, h3, k3, h4, k4, l, vs, k, cf, rfl, hp1, hp2, hp3, hi⟩ := pf
  obtain ⟨f', df', h3', k3', h4', k4', l', vs', k', cf', rfl, hp1', hp2', hp3', hi'⟩ := pg
  revert X; k_fill; intro X
  k_steps
  exact ⟨_, _, _, rfl, by k_asm, by k_asm, by intro p hp; k_mem, PolyIn.mk' (by k_mem) (by k_mem) (by k_mem) (by assumption)⟩
inductive Acc3 (news : Led) (rg : Addr) (c1 c2 c3 : List Int) : Nat → Value → Led → Prop
  | z (t : Tok) (nw : Led) (S : Sub news nw) : Acc3 news rg c1 c2 c3 0 (.int 0 t) nw
  | a (v : Value) (nw : Led) (S : Sub news nw) (p : PolyIn nw v rg c1) : Acc3 news rg c1 c2 c3 1 v nw
  | b (v : Value) (nw : Led) (S : Sub news nw) (p : PolyIn nw v rg c2) : Acc3 news rg c1 c2 c3 2 v nw
  | c (v : Value) (nw : Led) (S : Sub news nw) (p : PolyIn nw v rg c3) : Acc3 news rg c1 c2 c3 3 v nw
theorem cls_ne {o o' : Obj} {c c' : Value} (h : o.cls = c) (h' : o'.cls = c') (hc : c ≠ c') : o ≠ o' := fun e => hc (by rw [← h, ← h', e])
theorem dat_ne {o o' : Obj} {c c' : Data} (h : o.data = c) (h' : o'.data = c') (hc : c ≠ c') : o ≠ o' := fun e => hc (by rw [← h, ← h', e])
theorem mem2 {I S : Addr} {p : Addr × Obj} {nw : Led} (h : p ∈ nw) (h1 : p.1 ≠ I) (h2 : p.1 ≠ S) : p ∈ offP I (offP S nw) := mem_offP (mem_offP h h2) h1
theorem of_mem2 {I S : Addr} {nw : Led} : Sub (offP I (offP S nw)) nw := fun _ hp => (of_offP (of_offP hp).1).1
theorem off_mem2 {I S : Addr} {nw : Led} : ∀ p ∈ offP I (offP S nw), p.1 ≠ I ∧ p.1 ≠ S := fun _ hp => ⟨(of_offP hp).2, (of_offP (of_offP hp).1).2⟩
theorem poly_off {h₀ h : Heap} {L I S f d l rg : Addr} {oI oS : Obj} {nw : Led} {h1 h2 : Int} {k1 k2 : Tok} {vs : List Value} {k c n : Nat} {cs : List Int} {ac : Array Value} (N : News h₀ L h nw) (hI : (I, oI) ∈ nw) (hS : (S, oS) ∈ nw) (cI : oI.cls = .type "list_iterator") (cS : oS.data = .seq ac n)
    (m1 : (f, instObj 220 d) ∈ nw) (m2 : (d, W.dictOf [⟨h1, .str (Str.ofString "parent") k1, .ref rg⟩, ⟨h2, .str (Str.ofString "coeffs") k2, .ref l⟩] c) ∈ nw) (m3 : (l, W.listOf (List.toArray vs) k) ∈ nw) (i : IntsAre vs cs) (hl : l ≠ S) : PolyIn (offP I (offP S nw)) (.ref f) rg cs :=
  PolyIn.mk' (mem2 m1 (ob_ne (N _ hI).1 (N _ m1).1 (cls_ne rfl cI (by rintro ⟨⟩))) (ob_ne (N _ hS).1 (N _ m1).1 (dat_ne rfl cS (by rintro ⟨⟩))))
    (mem2 m2 (ob_ne (N _ hI).1 (N _ m2).1 (cls_ne (c := .type "dict") rfl cI (by decide))) (ob_ne (N _ hS).1 (N _ m2).1 (dat_ne rfl cS (by rintro ⟨⟩))))
    (mem2 m3 (ob_ne (N _ hI).1 (N _ m3).1 (cls_ne (c := .type "list") rfl cI (by decide))) hl) i
theorem list_off {h₀ h : Heap} {L S l a : Addr} {oS : Obj} {nw : Led} {vs : List Value} {k n : Nat} {cs : List Int} (N : News h₀ L h nw) (hS : (S, oS) ∈ nw) (cS : oS.data = .seq #[.ref a] n) (m3 : (l, W.listOf (List.toArray vs) k) ∈ nw) (i : IntsAre vs cs) : l ≠ S :=
  ob_ne (N _ hS).1 (N _ m3).1 (dat_ne rfl cS (fun e => by
    injection e with e _
    obtain rfl : vs = [.ref a] := by simpa using congrArg Array.toList e
    cases i))
end
theorem walkOff18 : True := by
  w_top off
  trivial
section
variable {prog : Program} {w : World} {A : Around} {E : Value → Shared → Prop} {s : Shared} {h₀ : Heap} {L : Addr} {m : Str → Option Value}
theorem set_L {l : Addr} {vs : List Value} {k kk : Nat} {t : Tok} {v : Value} {Q : Unit → Shared → Prop} {nw : Led} (F : Fr h₀ L s.heap m) (N : News h₀ L s.heap nw) (hm : (l, W.listOf vs.toArray kk) ∈ nw) (hk : k < vs.length) (hk2 : k < 1000)
    (h : ∀ h', Fr h₀ L h' m → News h₀ L h' ((l, W.listOf (vs.set k v).toArray kk) :: offP l nw) → Q () { s with heap := h' }) : wpAny (model prog w) A (setItem (.ref l) (.int (k : Int) t) v) Q E s := by
  have z := N _ hm
  refine ki_setAt z.1 (by omega) (by omega) (by rw [List.size_toArray]; omega) (h _ (F.change (Heap.SameBut.update ..) z.2.1 z.2.2) fun p hp => ?_)
  rcases List.mem_cons.mp hp with rfl | hp
  · refine ⟨?_, z.2⟩
    have e := Heap.get?_update_self (Obj.mapSeq (·.setIfInBounds k v)) z.1 rfl
    have e3 : vs.toArray.setIfInBounds k v = (vs.set k v).toArray := by
      apply Array.toList_inj.mp
      simp
    have e2 : Obj.mapSeq (·.setIfInBounds k v) (W.listOf vs.toArray kk) = W.listOf (vs.set k v).toArray kk := by
      rw [← e3]
      simp [Obj.mapSeq, W.listOf]
    rw [Int.toNat_natCast, ← e2]
    exact e
  · have q := of_offP hp
    exact ⟨(Heap.SameBut.update ..).extBut _ _ q.2 (N _ q.1).1, (N _ q.1).2⟩
end
/-- a list that holds no numbers -/
def NoInts (vs : List Value) : Prop := ∀ ns, ¬ IntsAre vs ns
theorem noInts_ref {vs : List Value} {k : Nat} {a : Addr} (h : vs[k]? = some (.ref a)) : NoInts vs := by
  intro ns hi
  obtain ⟨x, t, e, _⟩ := IntsAre.at hi k _ h
  cases e
section
variable {nw rest : Led} {ov : List Value} {ok : Nat} {rg : Addr} {q : Int} {n : Nat} {v : Value} {cs : List Int}
theorem lists_ne {vs : List Value} {k : Nat} (i : IntsAre vs cs) (hn : NoInts ov) : W.listOf vs.toArray k ≠ W.listOf ov.toArray ok := fun e => by
  have e1 : Data.seq vs.toArray k = Data.seq ov.toArray ok := congrArg Obj.data e
  injection e1 with e1 _
  obtain rfl : vs = ov := by simpa using congrArg Array.toList e1
  exact hn _ i
theorem ListIn.restL (h : ListIn nw v cs) (hn : NoInts ov) (hin : ∀ a o, (a, o) ∈ nw → o ≠ W.listOf ov.toArray ok → (a, o) ∈ rest) : ListIn rest v cs := by
  obtain ⟨l, vs, k, e, m3, i⟩ := h
  exact ⟨l, vs, k, e, hin _ _ m3 (lists_ne i hn), i⟩
theorem RingIn.restL (h : RingIn nw rg q n) (hin : ∀ a o, (a, o) ∈ nw → o ≠ W.listOf ov.toArray ok → (a, o) ∈ rest) : RingIn rest rg q n := by
  refine RingIn.elim h ?_
  clear h
  intro d h1 k1 h2 k2 tq tn c m1 m2
  exact ⟨d, h1, k1, h2, k2, tq, tn, c, hin _ _ m1 (by rintro ⟨⟩), hin _ _ m2 (cls_ne (c := .type "dict") (c' := .type "list") rfl rfl (by decide))⟩
theorem PolyIn.restL (h : PolyIn nw v rg cs) (hn : NoInts ov) (hin : ∀ a o, (a, o) ∈ nw → o ≠ W.listOf ov.toArray ok → (a, o) ∈ rest) : PolyIn rest v rg cs := by
  obtain ⟨f, d, h1, k1, h2, k2, l, vs, k, c, e, m1, m2, m3, i⟩ := h
  exact ⟨f, d, h1, k1, h2, k2, l, vs, k, c, e, hin _ _ m1 (by rintro ⟨⟩), hin _ _ m2 (cls_ne (c := .type "dict") (c' := .type "list") rfl rfl (by decide)), hin _ _ m3 (lists_ne i hn), i⟩
theorem Cell.restL {c : Addr} {x : Option Value} (h : Cell nw c x) (hin : ∀ a o, (a, o) ∈ nw → o ≠ W.listOf ov.toArray ok → (a, o) ∈ rest) : Cell rest c x := by
  obtain ⟨o, hm, hd⟩ := h
  exact ⟨o, hin _ _ hm (by rintro rfl; cases hd), hd⟩
theorem Tab.restL {P : Addr} (h : Tab P nw) (hin : ∀ a o, (a, o) ∈ nw → o ≠ W.listOf ov.toArray ok → (a, o) ∈ rest) : Tab P rest := by
  obtain ⟨ps, hm, ht⟩ := h
  exact ⟨ps, hin _ _ hm (by rintro ⟨⟩), ht⟩
end
/-- what stands at the head of each turn -/
inductive LI (P : Nat → List Int → List Int → Prop) (L : Addr) (q : Int) (n : Nat) (tq tn : Tok) (rs : List Int) (vsr : List Value) (kr : Nat) (sl rg lr lh lv : Addr) (kn : Nat) (m : Str → Option Value) (nw : Led) : Prop
  | mk (hcq : Cell nw (L+1) (some (.int q tq))) (hcn : Cell nw (L+1+1) (some (.int (n : Int) tn))) (hcr : Cell nw (L+1+1+1) (some (.ref lr))) (hcv : Cell nw (L+1+1+1+1) (some (.ref lv))) (hco : ∀ c ∈ ([(L+1+1+1+1+1), (L+1+1+1+1+1+1), (L+1+1+1+1+1+1+1), (L+1+1+1+1+1+1+1+1), (L+1+1+1+1+1+1+1+1+1), (L+1+1+1+1+1+1+1+1+1+1), (L+1+1+1+1+1+1+1+1+1+1+1), (L+1+1+1+1+1+1+1+1+1+1+1+1)] : List Addr), ∃ v, Cell nw c v)
    (t1 : Tab 234 nw) (t2 : Tab 241 nw) (hr : RingIn nw rg q n) (hmr : (lr, W.listOf vsr.toArray kr) ∈ nw) (hir : IntsAre vsr rs) (H : HV P nw rg lh lv kn)
    (hs : m (Str.ofString "script") = some (.ref sl)) (hg : m (Str.ofString "ring") = some (.ref rg)) (hh : m (Str.ofString "have") = some (.ref lh))
section
variable {h₀ : Heap} {L : Addr} {q : Int} {n : Nat} {tq tn : Tok} {rs : List Int} {vsr : List Value} {kr : Nat} {sl rg lr lh lv : Addr} {m m' : Str → Option Value} {nw rest : Led}
theorem HV.restI {Ev : Nat → List Int → List Int → Prop} {oI : Obj} {k : Nat} (h : HV Ev nw rg lh lv k) (hc : oI.cls = .type "range_iterator") (hin : ∀ a o, (a, o) ∈ nw → o ≠ oI → (a, o) ∈ rest) : HV Ev rest rg lh lv k := by
  obtain ⟨hvs, wvs, kh, kv, l1, l2, mh, mv, hp⟩ := h
  refine ⟨hvs, wvs, kh, kv, l1, l2, hin _ _ mh (cls_ne (c := .type "list") rfl hc (by decide)), hin _ _ mv (cls_ne (c := .type "list") rfl hc (by decide)), fun i hi => ?_⟩
  obtain ⟨v, w, cs, xs, e1, e2, p, l, ev⟩ := hp i hi
  obtain ⟨f, d, h1, k1, h2, k2, l', vs, k, c, e, m1, m2, m3, i3⟩ := p
  obtain ⟨l9, vs9, k9, e9, m9, i9⟩ := l
  exact ⟨v, w, cs, xs, e1, e2, ⟨f, d, h1, k1, h2, k2, l', vs, k, c, e, hin _ _ m1 (cls_ne rfl hc (by rintro ⟨⟩)), hin _ _ m2 (cls_ne (c := .type "dict") rfl hc (by decide)), hin _ _ m3 (cls_ne (c := .type "list") rfl hc (by decide)), i3⟩, ⟨l9, vs9, k9, e9, hin _ _ m9 (cls_ne (c := .type "list") rfl hc (by decide)), i9⟩, ev⟩
theorem LI.restI {P : Nat → List Int → List Int → Prop} {oI : Obj} {kn : Nat} (h : LI P L q n tq tn rs vsr kr sl rg lr lh lv kn m nw) (hI1 : ∀ ps, oI ≠ tabObj ps) (hI2 : ∀ v, oI.data ≠ .cell v) (hc : oI.cls = .type "range_iterator") (hin : ∀ a o, (a, o) ∈ nw → o ≠ oI → (a, o) ∈ rest) : LI P L q n tq tn rs vsr kr sl rg lr lh lv kn m rest := by
  obtain ⟨hcq, hcn, hcr, hcv, hco, t1, t2, hr, hmr, hir, H, hs, hg, hh⟩ := h
  have kc : ∀ {c v}, Cell nw c v → Cell rest c v := fun ⟨o, hm, hd⟩ => ⟨o, hin _ _ hm (fun e => hI2 _ (e ▸ hd)), hd⟩
  have kt : ∀ {P}, Tab P nw → Tab P rest := fun ⟨ps, hm, ht⟩ => ⟨ps, hin _ _ hm (Ne.symm (hI1 ps)), ht⟩
  refine RingIn.elim hr ?_
  clear hr
  intro d h1 k1 h2 k2 tq' tn' c m1 m2
  exact ⟨kc hcq, kc hcn, kc hcr, kc hcv, fun c hcc => let ⟨v, z⟩ := hco c hcc; ⟨v, kc z⟩, kt t1, kt t2, ⟨d, h1, k1, h2, k2, tq', tn', c, hin _ _ m1 (cls_ne rfl hc (by rintro ⟨⟩)), hin _ _ m2 (cls_ne (c := .type "dict") rfl hc (by decide))⟩, hin _ _ hmr (cls_ne (c := .type "list") rfl hc (by decide)), hir, H.restI hc hin, hs, hg, hh⟩
end
def loopTail? (p : Program) (i j : Nat) : Option (List Stmt) := (loopBody? p i).map (·.drop j)
theorem c14 {L c d : Addr} (i j : Nat) (hc : c = Nat.add L i) (hd : d = Nat.add L j) (h : i ≠ j) : c ≠ d := by
  subst hc hd
  exact fun e => h (Nat.add_left_cancel e)
theorem inC5 {L : Addr} : (L+1+1+1+1+1) ∈ ([(L+1+1+1+1+1), (L+1+1+1+1+1+1), (L+1+1+1+1+1+1+1), (L+1+1+1+1+1+1+1+1), (L+1+1+1+1+1+1+1+1+1), (L+1+1+1+1+1+1+1+1+1+1), (L+1+1+1+1+1+1+1+1+1+1+1), (L+1+1+1+1+1+1+1+1+1+1+1+1)] : List Addr) := List.mem_of_getElem? (i := 0) rfl
theorem inC6 {L : Addr} : (L+1+1+1+1+1+1) ∈ ([(L+1+1+1+1+1), (L+1+1+1+1+1+1), (L+1+1+1+1+1+1+1), (L+1+1+1+1+1+1+1+1), (L+1+1+1+1+1+1+1+1+1), (L+1+1+1+1+1+1+1+1+1+1), (L+1+1+1+1+1+1+1+1+1+1+1), (L+1+1+1+1+1+1+1+1+1+1+1+1)] : List Addr) := List.mem_of_getElem? (i := 1) rfl
theorem inC7 {L : Addr} : (L+1+1+1+1+1+1+1) ∈ ([(L+1+1+1+1+1), (L+1+1+1+1+1+1), (L+1+1+1+1+1+1+1), (L+1+1+1+1+1+1+1+1), (L+1+1+1+1+1+1+1+1+1), (L+1+1+1+1+1+1+1+1+1+1), (L+1+1+1+1+1+1+1+1+1+1+1), (L+1+1+1+1+1+1+1+1+1+1+1+1)] : List Addr) := List.mem_of_getElem? (i := 2) rfl
theorem inC8 {L : Addr} : (L+1+1+1+1+1+1+1+1) ∈ ([(L+1+1+1+1+1), (L+1+1+1+1+1+1), (L+1+1+1+1+1+1+1), (L+1+1+1+1+1+1+1+1), (L+1+1+1+1+1+1+1+1+1), (L+1+1+1+1+1+1+1+1+1+1), (L+1+1+1+1+1+1+1+1+1+1+1), (L+1+1+1+1+1+1+1+1+1+1+1+1)] : List Addr) := List.mem_of_getElem? (i := 3) rfl
theorem inC9 {L : Addr} : (L+1+1+1+1+1+1+1+1+1) ∈ ([(L+1+1+1+1+1), (L+1+1+1+1+1+1), (L+1+1+1+1+1+1+1), (L+1+1+1+1+1+1+1+1), (L+1+1+1+1+1+1+1+1+1), (L+1+1+1+1+1+1+1+1+1+1), (L+1+1+1+1+1+1+1+1+1+1+1), (L+1+1+1+1+1+1+1+1+1+1+1+1)] : List Addr) := List.mem_of_getElem? (i := 4) rfl
theorem inC10 {L : Addr} : (L+1+1+1+1+1+1+1+1+1+1) ∈ ([(L+1+1+1+1+1), (L+1+1+1+1+1+1), (L+1+1+1+1+1+1+1), (L+1+1+1+1+1+1+1+1), (L+1+1+1+1+1+1+1+1+1), (L+1+1+1+1+1+1+1+1+1+1), (L+1+1+1+1+1+1+1+1+1+1+1), (L+1+1+1+1+1+1+1+1+1+1+1+1)] : List Addr) := List.mem_of_getElem? (i := 5) rfl
theorem inC11 {L : Addr} : (L+1+1+1+1+1+1+1+1+1+1+1) ∈ ([(L+1+1+1+1+1), (L+1+1+1+1+1+1), (L+1+1+1+1+1+1+1), (L+1+1+1+1+1+1+1+1), (L+1+1+1+1+1+1+1+1+1), (L+1+1+1+1+1+1+1+1+1+1), (L+1+1+1+1+1+1+1+1+1+1+1), (L+1+1+1+1+1+1+1+1+1+1+1+1)] : List Addr) := List.mem_of_getElem? (i := 6) rfl
theorem inC12 {L : Addr} : (L+1+1+1+1+1+1+1+1+1+1+1+1) ∈ ([(L+1+1+1+1+1), (L+1+1+1+1+1+1), (L+1+1+1+1+1+1+1), (L+1+1+1+1+1+1+1+1), (L+1+1+1+1+1+1+1+1+1), (L+1+1+1+1+1+1+1+1+1+1), (L+1+1+1+1+1+1+1+1+1+1+1), (L+1+1+1+1+1+1+1+1+1+1+1+1)] : List Addr) := List.mem_of_getElem? (i := 7) rfl
theorem sub0 {l : List Addr} : ∀ c ∈ ([] : List Addr), c ∈ l := fun _ h => nomatch h
theorem subC {d : Addr} {l : List Addr} (h : d ∈ l) : ∀ c ∈ [d], c ∈ l := fun c hc => by rw [List.mem_singleton.mp hc]; exact h
theorem sub612 {L : Addr} : ∀ c ∈ ([(L+1+1+1+1+1+1), (L+1+1+1+1+1+1+1+1+1+1+1+1)] : List Addr), c ∈ ([(L+1+1+1+1+1), (L+1+1+1+1+1+1), (L+1+1+1+1+1+1+1), (L+1+1+1+1+1+1+1+1), (L+1+1+1+1+1+1+1+1+1), (L+1+1+1+1+1+1+1+1+1+1), (L+1+1+1+1+1+1+1+1+1+1+1), (L+1+1+1+1+1+1+1+1+1+1+1+1)] : List Addr) := fun c hc => by
  rcases List.mem_cons.mp hc with rfl | hc
  · exact inC6
  · rw [List.mem_singleton.mp hc]; exact inC12
theorem offC {L c d : Addr} (i j : Nat) (hc : c = Nat.add L i) (hd : d = Nat.add L j) (h : i ≠ j) : c ∉ [d] := fun hm => c14 i j hc hd h (List.mem_singleton.mp hm)
section
variable {h₀ : Heap} {L : Addr} {q : Int} {n : Nat} {tq tn : Tok} {rs : List Int} {vsr : List Value} {kr kn : Nat} {sl rg lr lh lv : Addr} {m : Str → Option Value} {nw : Led} {P : Nat → List Int → List Int → Prop}
theorem LI.co (h : LI P L q n tq tn rs vsr kr sl rg lr lh lv kn m nw) {c : Addr} (hc : c ∈ ([(L+1+1+1+1+1), (L+1+1+1+1+1+1), (L+1+1+1+1+1+1+1), (L+1+1+1+1+1+1+1+1), (L+1+1+1+1+1+1+1+1+1), (L+1+1+1+1+1+1+1+1+1+1), (L+1+1+1+1+1+1+1+1+1+1+1), (L+1+1+1+1+1+1+1+1+1+1+1+1)] : List Addr)) : ∃ v, Cell nw c v := by
  obtain ⟨_, _, _, _, uo, _⟩ := h
  exact uo c hc
theorem LI.hv (h : LI P L q n tq tn rs vsr kr sl rg lr lh lv kn m nw) : HV P nw rg lh lv kn := by
  obtain ⟨_, _, _, _, _, _, _, _, _, _, UH, _⟩ := h
  exact UH
end
theorem c14_off {L c : Addr} (i : Nat) (hc : c = Nat.add L i) (h : i < 5) : c ∉ ([(L+1+1+1+1+1), (L+1+1+1+1+1+1), (L+1+1+1+1+1+1+1), (L+1+1+1+1+1+1+1+1), (L+1+1+1+1+1+1+1+1+1), (L+1+1+1+1+1+1+1+1+1+1), (L+1+1+1+1+1+1+1+1+1+1+1), (L+1+1+1+1+1+1+1+1+1+1+1+1)] : List Addr) := by
  intro hm
  simp only [List.mem_cons, List.not_mem_nil, or_false] at hm
  rcases hm with e | e | e | e | e | e | e | e
  · exact c14 i 5 hc rfl (by omega) e
  · exact c14 i 6 hc rfl (by omega) e
  · exact c14 i 7 hc rfl (by omega) e
  · exact c14 i 8 hc rfl (by omega) e
  · exact c14 i 9 hc rfl (by omega) e
  · exact c14 i 10 hc rfl (by omega) e
  · exact c14 i 11 hc rfl (by omega) e
  · exact c14 i 12 hc rfl (by omega) e
section
variable {h₀ : Heap} {L : Addr} {q : Int} {n : Nat} {tq tn : Tok} {rs : List Int} {vsr : List Value} {kr kn : Nat} {sl rg lr lh lv : Addr} {m m' : Str → Option Value} {nw rest : Led}
theorem LI.step {P : Nat → List Int → List Int → Prop} {cs : List Addr} (h : LI P L q n tq tn rs vsr kr sl rg lr lh lv kn m nw) (hk : K5 nw rest) (hc : KC cs nw rest) (hcs : ∀ c ∈ cs, c ∈ ([(L+1+1+1+1+1), (L+1+1+1+1+1+1), (L+1+1+1+1+1+1+1), (L+1+1+1+1+1+1+1+1), (L+1+1+1+1+1+1+1+1+1), (L+1+1+1+1+1+1+1+1+1+1), (L+1+1+1+1+1+1+1+1+1+1+1), (L+1+1+1+1+1+1+1+1+1+1+1+1)] : List Addr)) (t1 : Tab 234 rest) (t2 : Tab 241 rest) (h1 : m' (Str.ofString "script") = m (Str.ofString "script")) (h2 : m' (Str.ofString "ring") = m (Str.ofString "ring")) (h3 : m' (Str.ofString "have") = m (Str.ofString "have")) : LI P L q n tq tn rs vsr kr sl rg lr lh lv kn m' rest := by
  obtain ⟨hcq, hcn, hcr, hcv, hco, _, _, hr, hmr, hir, H, hs, hg, hh⟩ := h
  exact ⟨hc _ _ (fun hm => c14_off 1 rfl (by omega) (hcs _ hm)) hcq, hc _ _ (fun hm => c14_off 2 rfl (by omega) (hcs _ hm)) hcn, hc _ _ (fun hm => c14_off 3 rfl (by omega) (hcs _ hm)) hcr, hc _ _ (fun hm => c14_off 4 rfl (by omega) (hcs _ hm)) hcv, fun c hcc => let ⟨v, z⟩ := hco c hcc; hk.2 c v z, t1, t2, hr.k5 hk, hk.list hmr, hir, H.k5 hk, h1.trans hs, h2.trans hg, h3.trans hh⟩
theorem FEnd.os' {s s' s2 : Shared} {I : Addr} {oI : Obj} {R : (Str → Option Value) → Led → Prop} {f : Flow} (h : FEnd h₀ L s I oI R f s2) (e : s.os = s'.os) : FEnd h₀ L s' I oI R f s2 := by
  obtain ⟨m, nw, all, hf, F, N, hI, hs, off, G, hos, r⟩ := h
  exact ⟨m, nw, all, hf, F, N, hI, hs, off, G, hos.trans e, r⟩
end
/-- where a statement of the law ends -/
inductive LP (h₀ : Heap) (L : Addr) (s : Shared) (R : (Str → Option Value) → Led → Prop) (f : Flow) (s' : Shared) : Prop
  | mk (hf : f = .next) (m : Str → Option Value) (nw : Led) (F : Fr h₀ L s'.heap m) (N : News h₀ L s'.heap nw) (G : AllBare s'.gens) (hos : s'.os = s.os) (r : R m nw)
theorem step_LP {M : Model} {A : Around} {E : Value → Shared → Prop} {s : Shared} {env : Env} {st : Stmt} {rest : List Stmt} {Q : Flow → Shared → Prop} {h₀ : Heap} {L : Addr} {R : (Str → Option Value) → Led → Prop}
    (h1 : wpAny M A (exec st env) (LP h₀ L s R) E s) (h2 : ∀ m' nw s', Fr h₀ L s'.heap m' → News h₀ L s'.heap nw → AllBare s'.gens → s'.os = s.os → R m' nw → wpAny M A (execs rest env) Q E s') : wpAny M A (execs (st :: rest) env) Q E s := by
  refine wpAny_execs_cons (wpAny_mono h1 (fun f s' h => ?_) fun _ _ e => e)
  obtain ⟨rfl, m', nw, F, N, G, hos, r⟩ := h
  exact h2 m' nw s' F N G hos r
section
variable {h₀ : Heap} {L : Addr} {q : Int} {n : Nat} {tq tn : Tok} {rs : List Int} {vsr : List Value} {kr kn : Nat} {sl rg lr lh lv : Addr} {m : Str → Option Value} {nw : Led}
theorem LI.impk {P P' : Nat → List Int → List Int → Prop} (h : LI P L q n tq tn rs vsr kr sl rg lr lh lv kn m nw) (hi : ∀ i, i < kn → ∀ cs xs, P i cs xs → P' i cs xs) : LI P' L q n tq tn rs vsr kr sl rg lr lh lv kn m nw := by
  obtain ⟨hcq, hcn, hcr, hcv, hco, t1, t2, hr, hmr, hir, ⟨hvs, wvs, kh, kv, l1, l2, mh, mv, hp⟩, hs, hg, hh⟩ := h
  refine ⟨hcq, hcn, hcr, hcv, hco, t1, t2, hr, hmr, hir, ⟨hvs, wvs, kh, kv, l1, l2, mh, mv, fun i hi9 => ?_⟩, hs, hg, hh⟩
  obtain ⟨v, w, cs, xs, e1, e2, p, l, ev⟩ := hp i hi9
  exact ⟨v, w, cs, xs, e1, e2, p, l, hi i hi9 cs xs ev⟩
theorem LI.imp {P P' : Nat → List Int → List Int → Prop} (h : LI P L q n tq tn rs vsr kr sl rg lr lh lv kn m nw) (hi : ∀ i cs xs, P i cs xs → P' i cs xs) : LI P' L q n tq tn rs vsr kr sl rg lr lh lv kn m nw := h.impk fun i _ => hi i
end
theorem dict_ne {h1 h2 h3 h4 : Int} {k1 k2 k3 k4 : Tok} {q : Int} {n : Int} {tq tn : Tok} {c c' : Nat} {rg l : Addr} : W.dictOf [⟨h1, .str (Str.ofString "q") k1, .int q tq⟩, ⟨h2, .str (Str.ofString "n") k2, .int n tn⟩] c ≠ W.dictOf [⟨h3, .str (Str.ofString "parent") k3, .ref rg⟩, ⟨h4, .str (Str.ofString "coeffs") k4, .ref l⟩] c' := by
  intro e
  have e1 := congrArg Obj.data e
  simp [W.dictOf] at e1
theorem ints_det : ∀ {vs : List Value} {a b : List Int}, IntsAre vs a → IntsAre vs b → a = b
  | _, _, _, .nil, .nil => rfl
  | _, _, _, .cons _ _ h, .cons _ _ k => by rw [ints_det h k]
theorem poly_red {h₀ h : Heap} {L df D rg l : Addr} {nw A : Led} {h3 h4 h5 h6 : Int} {k3 k4 k5 k6 : Tok} {cf cf2 k : Nat} {vs ys : List Value} {cs cs2 cs' : List Int} {v : Value} (N : News h₀ L h nw) (hd : (df, W.dictOf [⟨h3, .str (Str.ofString "parent") k3, .ref rg⟩, ⟨h4, .str (Str.ofString "coeffs") k4, .ref l⟩] cf) ∈ nw) (hl : (l, W.listOf vs.toArray k) ∈ nw) (hi : IntsAre vs cs) {f : Addr} (hf : (f, instObj 220 df) ∈ nw)
    (up : ∀ a o, (a, o) ∈ nw → a ≠ df → (a, o) ∈ A) (hD : (D, LCg.lst ys) ∈ A) (hy : IntsAre ys cs2) (hd2 : (df, W.dictOf [⟨h5, .str (Str.ofString "parent") k5, .ref rg⟩, ⟨h6, .str (Str.ofString "coeffs") k6, .ref D⟩] cf2) ∈ A) (p : PolyIn nw v rg cs') : (PolyIn A v rg cs' ∧ v ≠ .ref f) ∨ (cs' = cs ∧ PolyIn A v rg cs2) := by
  obtain ⟨f', d', h1, k1, h2, k2, l', vs', k', c', rfl, m1, m2, m3, i3⟩ := p
  have u1 := up _ _ m1 (ob_ne (N _ hd).1 (N _ m1).1 (by rintro ⟨⟩))
  have u3 := up _ _ m3 (ob_ne (N _ hd).1 (N _ m3).1 (cls_ne (c := .type "list") (c' := .type "dict") rfl rfl (by decide)))
  by_cases e : d' = df
  · subst e
    have e1 := congrArg Obj.data (Option.some.inj ((N _ m2).1.symm.trans (N _ hd).1))
    have e2 : l' = l := by
      simp [W.dictOf] at e1
      first | exact e1.1.2.2.2 | exact e1.1.2.2 | exact e1.2.2.2.1 | exact e1.2.2.1 | exact e1.1.2.2.2.1 | exact e1.2.2.2
    subst e2
    have e3 := congrArg Obj.data (Option.some.inj ((N _ m3).1.symm.trans (N _ hl).1))
    have e4 : Data.seq vs'.toArray k' = Data.seq vs.toArray k := e3
    injection e4 with e4 _
    obtain rfl : vs' = vs := by simpa using congrArg Array.toList e4
    exact .inr ⟨ints_det i3 hi, PolyIn.mk' u1 hd2 hD hy⟩
  · refine .inl ⟨PolyIn.mk' u1 (up _ _ m2 e) u3 i3, fun h => ?_⟩
    obtain rfl : f' = f := by injection h
    have := (N _ m1).1.symm.trans (N _ hf).1
    exact e (by injection this with this; injection this with _ this; injection this)
theorem walkOff19 : True := by
  w_top off
  trivial
set_option maxHeartbeats 4000000 in
theorem ybl1 (st : Stmt) (hst : loopStmt? PySem.Challenge.rw_xy0002_05.row.toRowW.prog 7 0 = some st)
    (scope : Scope) (hsc : lawScope? PySem.Challenge.rw_xy0002_05.row.toRowW.prog = some scope)
    (w : World) (mean : ExcName → Option Value) (mg mb : Str → Option Value) (dp un : Nat) (gd : Option (List Code)) (a : Addr) (ccd : Value) (outer : List Env) (A₀ : Around) (base h₀ : Heap) (L : Addr) (m : Str → Option Value) (s : Shared) (E : Value → Shared → Prop) (news : Led)
    (sl rg lr lh lv : Addr) (n : Nat) (q : Int) (tn tq : Tok) (svs vsr : List Value) (sns rs : List Int) (kr : Nat)
    (B : Below A₀ base outer h₀) (hS : base.IsList sl svs.toArray) (X : (hd05.heap_39 w.params).In h₀) (T : Top topProg (looseW Mine05.view [] ++ (recsOf Mine05.view).map (·.name) ++ (litsOf Mine05.view).map (·.1) ++ (clssOf Mine05.view (looseW Mine05.view [])).map (·.name)) mean mg mb h₀) (hdp : dp + 100 < recursionLimit) (hun : un + 800 < cLine)
    (hsi : IntsAre svs sns) (hsb : ∀ x ∈ sns, Builtin.Int.intBits x ≤ 2 ^ 20) (hsl : sns.length ≤ 63)
    (hC1 : CodeHd h₀ 238 234) (hC2 : CodeHd h₀ 243 241) (ht1 : Tab 234 news) (ht2 : Tab 241 news) (hG : AllBare s.gens)
    (hcq : Cell news (L+1) (some (.int q tq))) (hcn : Cell news (L+1+1) (some (.int (n : Int) tn))) (hcr : Cell news (L+1+1+1) (some (.ref lr))) (hcv : Cell news (L+1+1+1+1) (some (.ref lv)))
    (h1n : 1 ≤ n) (hn : n ≤ 8) (hq : 2 ≤ q) (hq2 : q ≤ 256) (hro : RootsOk q n rs) (hr : RingIn news rg q n) (hmr : (lr, W.listOf vsr.toArray kr) ∈ news) (hir : IntsAre vsr rs)
    (hm_s : m (Str.ofString "script") = some (.ref sl)) (hm_r : m (Str.ofString "ring") = some (.ref rg)) (hm_h : m (Str.ofString "have") = some (.ref lh))

    (i : Nat) (ti : Tok) (hi27 : i < 27) (hm_i : m (Str.ofString "r") = some (.int (i : Int) ti))
    (F : Fr h₀ L s.heap m) (N : News h₀ L s.heap news) :
    wpAny (model PySem.Challenge.rw_xy0002_05.row.toRowW.prog w) (ktrTop dp un gd (Str.ofString "law") scope L a ccd [(Str.ofString "e", L + 1 + 1 + 1 + 1 + 1 + 1 + 1 + 1 + 1 + 1 + 1 + 1), (Str.ofString "y", L + 1 + 1 + 1 + 1 + 1 + 1 + 1 + 1 + 1 + 1 + 1), (Str.ofString "x", L + 1 + 1 + 1 + 1 + 1 + 1 + 1 + 1 + 1 + 1), (Str.ofString "t", L + 1 + 1 + 1 + 1 + 1 + 1 + 1 + 1 + 1), (Str.ofString "m", L + 1 + 1 + 1 + 1 + 1 + 1 + 1 + 1), (Str.ofString "a", L + 1 + 1 + 1 + 1 + 1 + 1 + 1), (Str.ofString "row", L + 1 + 1 + 1 + 1 + 1 + 1), (Str.ofString "z", L + 1 + 1 + 1 + 1 + 1), (Str.ofString "vals", L + 1 + 1 + 1 + 1), (Str.ofString "roots", L + 1 + 1 + 1), (Str.ofString "n", L + 1 + 1), (Str.ofString "q", L + 1)] outer) (exec st (envX (Str.ofString "law") scope L a ccd [(Str.ofString "e", L + 1 + 1 + 1 + 1 + 1 + 1 + 1 + 1 + 1 + 1 + 1 + 1), (Str.ofString "y", L + 1 + 1 + 1 + 1 + 1 + 1 + 1 + 1 + 1 + 1 + 1), (Str.ofString "x", L + 1 + 1 + 1 + 1 + 1 + 1 + 1 + 1 + 1 + 1), (Str.ofString "t", L + 1 + 1 + 1 + 1 + 1 + 1 + 1 + 1 + 1), (Str.ofString "m", L + 1 + 1 + 1 + 1 + 1 + 1 + 1 + 1), (Str.ofString "a", L + 1 + 1 + 1 + 1 + 1 + 1 + 1), (Str.ofString "row", L + 1 + 1 + 1 + 1 + 1 + 1), (Str.ofString "z", L + 1 + 1 + 1 + 1 + 1), (Str.ofString "vals", L + 1 + 1 + 1 + 1), (Str.ofString "roots", L + 1 + 1 + 1), (Str.ofString "n", L + 1 + 1), (Str.ofString "q", L + 1)])) (S5 h₀ L m news s [Str.ofString "op"] [] fun m' nw => ∃ (op : Nat) (t : Tok), op < 12 ∧ m' (Str.ofString "op") = some (.int (op : Int) t)) E s := by
  obtain rfl : _ = st := Option.some.inj (hst : some _ = some st)
  obtain rfl : _ = scope := Option.some.inj (hsc : some _ = some scope)
  clear hst hsc
  refine RingIn.elim hr ?_
  clear hr
  intro dr h1r k1r h2r k2r tqr tnr cr hr1 hr2
  obtain ⟨ps1, hP1, ht1⟩ := ht1
  obtain ⟨ps2, hP2, ht2⟩ := ht2
  obtain ⟨oq, mq, xq⟩ := hcq
  obtain ⟨on, mn, xn⟩ := hcn
  obtain ⟨or, mr, xr⟩ := hcr
  obtain ⟨ov, mv, xv⟩ := hcv
  have hlr : rs.length = n := hro.len
  revert X; k_fill; intro X

  k_steps
  obtain ⟨op, e, he⟩ := nat_fmodN (x' + 5 * (i : Int)) 12 (by decide)
  refine S5.sub (by k_asm) (by k_asm) (by intro p hp; k_mem) hP1 ht1 hP2 ht2 (fun z hz => m_one hz) hG rfl ⟨op, _, by omega, (if_pos rfl).trans (by rw [e])⟩
theorem walkOff20 : True := by
  w_top off
  trivial
set_option maxHeartbeats 4000000 in
theorem ybl4 (st : Stmt) (hst : loopStmt? PySem.Challenge.rw_xy0002_05.row.toRowW.prog 7 3 = some st)
    (scope : Scope) (hsc : lawScope? PySem.Challenge.rw_xy0002_05.row.toRowW.prog = some scope)
    (w : World) (mean : ExcName → Option Value) (mg mb : Str → Option Value) (dp un : Nat) (gd : Option (List Code)) (a : Addr) (ccd : Value) (outer : List Env) (A₀ : Around) (base h₀ : Heap) (L : Addr) (m : Str → Option Value) (s : Shared) (E : Value → Shared → Prop) (news : Led)
    (sl rg lr lh lv : Addr) (n : Nat) (q : Int) (tn tq : Tok) (svs vsr : List Value) (sns rs : List Int) (kr : Nat)
    (B : Below A₀ base outer h₀) (hS : base.IsList sl svs.toArray) (X : (hd05.heap_39 w.params).In h₀) (T : Top topProg (looseW Mine05.view [] ++ (recsOf Mine05.view).map (·.name) ++ (litsOf Mine05.view).map (·.1) ++ (clssOf Mine05.view (looseW Mine05.view [])).map (·.name)) mean mg mb h₀) (hdp : dp + 100 < recursionLimit) (hun : un + 800 < cLine)
    (hsi : IntsAre svs sns) (hsb : ∀ x ∈ sns, Builtin.Int.intBits x ≤ 2 ^ 20) (hsl : sns.length ≤ 63)
    (hC1 : CodeHd h₀ 238 234) (hC2 : CodeHd h₀ 243 241) (ht1 : Tab 234 news) (ht2 : Tab 241 news) (hG : AllBare s.gens)
    (hcq : Cell news (L+1) (some (.int q tq))) (hcn : Cell news (L+1+1) (some (.int (n : Int) tn))) (hcr : Cell news (L+1+1+1) (some (.ref lr))) (hcv : Cell news (L+1+1+1+1) (some (.ref lv)))
    (h1n : 1 ≤ n) (hn : n ≤ 8) (hq : 2 ≤ q) (hq2 : q ≤ 256) (hro : RootsOk q n rs) (hr : RingIn news rg q n) (hmr : (lr, W.listOf vsr.toArray kr) ∈ news) (hir : IntsAre vsr rs)
    (hm_s : m (Str.ofString "script") = some (.ref sl)) (hm_r : m (Str.ofString "ring") = some (.ref rg)) (hm_h : m (Str.ofString "have") = some (.ref lh))

    (x : Int) (tx : Tok) (hca : Cell news (L+1+1+1+1+1+1+1) (some (.int x tx)))
    (F : Fr h₀ L s.heap m) (N : News h₀ L s.heap news) :
    wpAny (model PySem.Challenge.rw_xy0002_05.row.toRowW.prog w) (ktrTop dp un gd (Str.ofString "law") scope L a ccd [(Str.ofString "e", L + 1 + 1 + 1 + 1 + 1 + 1 + 1 + 1 + 1 + 1 + 1 + 1), (Str.ofString "y", L + 1 + 1 + 1 + 1 + 1 + 1 + 1 + 1 + 1 + 1 + 1), (Str.ofString "x", L + 1 + 1 + 1 + 1 + 1 + 1 + 1 + 1 + 1 + 1), (Str.ofString "t", L + 1 + 1 + 1 + 1 + 1 + 1 + 1 + 1 + 1), (Str.ofString "m", L + 1 + 1 + 1 + 1 + 1 + 1 + 1 + 1), (Str.ofString "a", L + 1 + 1 + 1 + 1 + 1 + 1 + 1), (Str.ofString "row", L + 1 + 1 + 1 + 1 + 1 + 1), (Str.ofString "z", L + 1 + 1 + 1 + 1 + 1), (Str.ofString "vals", L + 1 + 1 + 1 + 1), (Str.ofString "roots", L + 1 + 1 + 1), (Str.ofString "n", L + 1 + 1), (Str.ofString "q", L + 1)] outer) (exec st (envX (Str.ofString "law") scope L a ccd [(Str.ofString "e", L + 1 + 1 + 1 + 1 + 1 + 1 + 1 + 1 + 1 + 1 + 1 + 1), (Str.ofString "y", L + 1 + 1 + 1 + 1 + 1 + 1 + 1 + 1 + 1 + 1 + 1), (Str.ofString "x", L + 1 + 1 + 1 + 1 + 1 + 1 + 1 + 1 + 1 + 1), (Str.ofString "t", L + 1 + 1 + 1 + 1 + 1 + 1 + 1 + 1 + 1), (Str.ofString "m", L + 1 + 1 + 1 + 1 + 1 + 1 + 1 + 1), (Str.ofString "a", L + 1 + 1 + 1 + 1 + 1 + 1 + 1), (Str.ofString "row", L + 1 + 1 + 1 + 1 + 1 + 1), (Str.ofString "z", L + 1 + 1 + 1 + 1 + 1), (Str.ofString "vals", L + 1 + 1 + 1 + 1), (Str.ofString "roots", L + 1 + 1 + 1), (Str.ofString "n", L + 1 + 1), (Str.ofString "q", L + 1)])) (S5 h₀ L m news s [Str.ofString "i"] [] fun m' _ => ∃ (k : Nat) (t : Tok), k < 3 ∧ m' (Str.ofString "i") = some (.int (k : Int) t)) E s := by
  obtain rfl : _ = st := Option.some.inj (hst : some _ = some st)
  obtain rfl : _ = scope := Option.some.inj (hsc : some _ = some scope)
  clear hst hsc
  refine RingIn.elim hr ?_
  clear hr
  intro dr h1r k1r h2r k2r tqr tnr cr hr1 hr2
  obtain ⟨ps1, hP1, ht1⟩ := ht1
  obtain ⟨ps2, hP2, ht2⟩ := ht2
  obtain ⟨oq, mq, xq⟩ := hcq
  obtain ⟨on, mn, xn⟩ := hcn
  obtain ⟨or, mr, xr⟩ := hcr
  obtain ⟨ov, mv, xv⟩ := hcv
  have hlr : rs.length = n := hro.len
  revert X; k_fill; intro X

  obtain ⟨oc, mc, xc⟩ := hca
  k_steps
  obtain ⟨k, e, he⟩ := nat_fmodN x 3 (by decide)
  refine S5.sub (by k_asm) (by k_asm) (by intro p hp; k_mem) hP1 ht1 hP2 ht2 (fun z hz => m_one hz) hG rfl ⟨k, _, by omega, (if_pos rfl).trans (by rw [e])⟩
theorem walkOff21 : True := by
  w_top off
  trivial
set_option maxHeartbeats 4000000 in
theorem ybl5 (st : Stmt) (hst : loopStmt? PySem.Challenge.rw_xy0002_05.row.toRowW.prog 7 4 = some st)
    (scope : Scope) (hsc : lawScope? PySem.Challenge.rw_xy0002_05.row.toRowW.prog = some scope)
    (w : World) (mean : ExcName → Option Value) (mg mb : Str → Option Value) (dp un : Nat) (gd : Option (List Code)) (a : Addr) (ccd : Value) (outer : List Env) (A₀ : Around) (base h₀ : Heap) (L : Addr) (m : Str → Option Value) (s : Shared) (E : Value → Shared → Prop) (news : Led)
    (sl rg lr lh lv : Addr) (n : Nat) (q : Int) (tn tq : Tok) (svs vsr : List Value) (sns rs : List Int) (kr : Nat)
    (B : Below A₀ base outer h₀) (hS : base.IsList sl svs.toArray) (X : (hd05.heap_39 w.params).In h₀) (T : Top topProg (looseW Mine05.view [] ++ (recsOf Mine05.view).map (·.name) ++ (litsOf Mine05.view).map (·.1) ++ (clssOf Mine05.view (looseW Mine05.view [])).map (·.name)) mean mg mb h₀) (hdp : dp + 100 < recursionLimit) (hun : un + 800 < cLine)
    (hsi : IntsAre svs sns) (hsb : ∀ x ∈ sns, Builtin.Int.intBits x ≤ 2 ^ 20) (hsl : sns.length ≤ 63)
    (hC1 : CodeHd h₀ 238 234) (hC2 : CodeHd h₀ 243 241) (ht1 : Tab 234 news) (ht2 : Tab 241 news) (hG : AllBare s.gens)
    (hcq : Cell news (L+1) (some (.int q tq))) (hcn : Cell news (L+1+1) (some (.int (n : Int) tn))) (hcr : Cell news (L+1+1+1) (some (.ref lr))) (hcv : Cell news (L+1+1+1+1) (some (.ref lv)))
    (h1n : 1 ≤ n) (hn : n ≤ 8) (hq : 2 ≤ q) (hq2 : q ≤ 256) (hro : RootsOk q n rs) (hr : RingIn news rg q n) (hmr : (lr, W.listOf vsr.toArray kr) ∈ news) (hir : IntsAre vsr rs)
    (hm_s : m (Str.ofString "script") = some (.ref sl)) (hm_r : m (Str.ofString "ring") = some (.ref rg)) (hm_h : m (Str.ofString "have") = some (.ref lh))

    (x : Int) (tx : Tok) (hca : Cell news (L+1+1+1+1+1+1+1) (some (.int x tx)))
    (F : Fr h₀ L s.heap m) (N : News h₀ L s.heap news) :
    wpAny (model PySem.Challenge.rw_xy0002_05.row.toRowW.prog w) (ktrTop dp un gd (Str.ofString "law") scope L a ccd [(Str.ofString "e", L + 1 + 1 + 1 + 1 + 1 + 1 + 1 + 1 + 1 + 1 + 1 + 1), (Str.ofString "y", L + 1 + 1 + 1 + 1 + 1 + 1 + 1 + 1 + 1 + 1 + 1), (Str.ofString "x", L + 1 + 1 + 1 + 1 + 1 + 1 + 1 + 1 + 1 + 1), (Str.ofString "t", L + 1 + 1 + 1 + 1 + 1 + 1 + 1 + 1 + 1), (Str.ofString "m", L + 1 + 1 + 1 + 1 + 1 + 1 + 1 + 1), (Str.ofString "a", L + 1 + 1 + 1 + 1 + 1 + 1 + 1), (Str.ofString "row", L + 1 + 1 + 1 + 1 + 1 + 1), (Str.ofString "z", L + 1 + 1 + 1 + 1 + 1), (Str.ofString "vals", L + 1 + 1 + 1 + 1), (Str.ofString "roots", L + 1 + 1 + 1), (Str.ofString "n", L + 1 + 1), (Str.ofString "q", L + 1)] outer) (exec st (envX (Str.ofString "law") scope L a ccd [(Str.ofString "e", L + 1 + 1 + 1 + 1 + 1 + 1 + 1 + 1 + 1 + 1 + 1 + 1), (Str.ofString "y", L + 1 + 1 + 1 + 1 + 1 + 1 + 1 + 1 + 1 + 1 + 1), (Str.ofString "x", L + 1 + 1 + 1 + 1 + 1 + 1 + 1 + 1 + 1 + 1), (Str.ofString "t", L + 1 + 1 + 1 + 1 + 1 + 1 + 1 + 1 + 1), (Str.ofString "m", L + 1 + 1 + 1 + 1 + 1 + 1 + 1 + 1), (Str.ofString "a", L + 1 + 1 + 1 + 1 + 1 + 1 + 1), (Str.ofString "row", L + 1 + 1 + 1 + 1 + 1 + 1), (Str.ofString "z", L + 1 + 1 + 1 + 1 + 1), (Str.ofString "vals", L + 1 + 1 + 1 + 1), (Str.ofString "roots", L + 1 + 1 + 1), (Str.ofString "n", L + 1 + 1), (Str.ofString "q", L + 1)])) (S5 h₀ L m news s [Str.ofString "j"] [] fun m' _ => ∃ (k : Nat) (t : Tok), k < 3 ∧ m' (Str.ofString "j") = some (.int (k : Int) t)) E s := by
  obtain rfl : _ = st := Option.some.inj (hst : some _ = some st)
  obtain rfl : _ = scope := Option.some.inj (hsc : some _ = some scope)
  clear hst hsc
  refine RingIn.elim hr ?_
  clear hr
  intro dr h1r k1r h2r k2r tqr tnr cr hr1 hr2
  obtain ⟨ps1, hP1, ht1⟩ := ht1
  obtain ⟨ps2, hP2, ht2⟩ := ht2
  obtain ⟨oq, mq, xq⟩ := hcq
  obtain ⟨on, mn, xn⟩ := hcn
  obtain ⟨or, mr, xr⟩ := hcr
  obtain ⟨ov, mv, xv⟩ := hcv
  have hlr : rs.length = n := hro.len
  revert X; k_fill; intro X

  obtain ⟨oc, mc, xc⟩ := hca
  k_steps
  obtain ⟨k, e, he⟩ := nat_fmodN (Int.fdiv x 3) 3 (by decide)
  refine S5.sub (by k_asm) (by k_asm) (by intro p hp; k_mem) hP1 ht1 hP2 ht2 (fun z hz => m_one hz) hG rfl ⟨k, _, by omega, (if_pos rfl).trans (by rw [e])⟩
theorem walkOff22 : True := by
  w_top off
  trivial
set_option maxHeartbeats 4000000 in
theorem ybl11 (st : Stmt) (hst : loopStmt? PySem.Challenge.rw_xy0002_05.row.toRowW.prog 7 11 = some st)
    (scope : Scope) (hsc : lawScope? PySem.Challenge.rw_xy0002_05.row.toRowW.prog = some scope)
    (w : World) (mean : ExcName → Option Value) (mg mb : Str → Option Value) (dp un : Nat) (gd : Option (List Code)) (a : Addr) (ccd : Value) (outer : List Env) (A₀ : Around) (base h₀ : Heap) (L : Addr) (m : Str → Option Value) (s : Shared) (E : Value → Shared → Prop) (news : Led)
    (sl rg lr lh lv : Addr) (n : Nat) (q : Int) (tn tq : Tok) (svs vsr : List Value) (sns rs : List Int) (kr : Nat)
    (B : Below A₀ base outer h₀) (hS : base.IsList sl svs.toArray) (X : (hd05.heap_39 w.params).In h₀) (T : Top topProg (looseW Mine05.view [] ++ (recsOf Mine05.view).map (·.name) ++ (litsOf Mine05.view).map (·.1) ++ (clssOf Mine05.view (looseW Mine05.view [])).map (·.name)) mean mg mb h₀) (hdp : dp + 100 < recursionLimit) (hun : un + 800 < cLine)
    (hsi : IntsAre svs sns) (hsb : ∀ x ∈ sns, Builtin.Int.intBits x ≤ 2 ^ 20) (hsl : sns.length ≤ 63)
    (hC1 : CodeHd h₀ 238 234) (hC2 : CodeHd h₀ 243 241) (ht1 : Tab 234 news) (ht2 : Tab 241 news) (hG : AllBare s.gens)
    (hcq : Cell news (L+1) (some (.int q tq))) (hcn : Cell news (L+1+1) (some (.int (n : Int) tn))) (hcr : Cell news (L+1+1+1) (some (.ref lr))) (hcv : Cell news (L+1+1+1+1) (some (.ref lv)))
    (h1n : 1 ≤ n) (hn : n ≤ 8) (hq : 2 ≤ q) (hq2 : q ≤ 256) (hro : RootsOk q n rs) (hr : RingIn news rg q n) (hmr : (lr, W.listOf vsr.toArray kr) ∈ news) (hir : IntsAre vsr rs)
    (hm_s : m (Str.ofString "script") = some (.ref sl)) (hm_r : m (Str.ofString "ring") = some (.ref rg)) (hm_h : m (Str.ofString "have") = some (.ref lh))

    (v w9 : Value) (cs xs : List Int) (hm_n : m (Str.ofString "new") = some v) (hm_v : m (Str.ofString "val") = some w9) (pv : PolyIn news v rg cs) (lw : ListIn news w9 xs) (ev : Ev q n rs cs xs)
    (F : Fr h₀ L s.heap m) (N : News h₀ L s.heap news) :
    wpAny (model PySem.Challenge.rw_xy0002_05.row.toRowW.prog w) (ktrTop dp un gd (Str.ofString "law") scope L a ccd [(Str.ofString "e", L + 1 + 1 + 1 + 1 + 1 + 1 + 1 + 1 + 1 + 1 + 1 + 1), (Str.ofString "y", L + 1 + 1 + 1 + 1 + 1 + 1 + 1 + 1 + 1 + 1 + 1), (Str.ofString "x", L + 1 + 1 + 1 + 1 + 1 + 1 + 1 + 1 + 1 + 1), (Str.ofString "t", L + 1 + 1 + 1 + 1 + 1 + 1 + 1 + 1 + 1), (Str.ofString "m", L + 1 + 1 + 1 + 1 + 1 + 1 + 1 + 1), (Str.ofString "a", L + 1 + 1 + 1 + 1 + 1 + 1 + 1), (Str.ofString "row", L + 1 + 1 + 1 + 1 + 1 + 1), (Str.ofString "z", L + 1 + 1 + 1 + 1 + 1), (Str.ofString "vals", L + 1 + 1 + 1 + 1), (Str.ofString "roots", L + 1 + 1 + 1), (Str.ofString "n", L + 1 + 1), (Str.ofString "q", L + 1)] outer) (exec st (envX (Str.ofString "law") scope L a ccd [(Str.ofString "e", L + 1 + 1 + 1 + 1 + 1 + 1 + 1 + 1 + 1 + 1 + 1 + 1), (Str.ofString "y", L + 1 + 1 + 1 + 1 + 1 + 1 + 1 + 1 + 1 + 1 + 1), (Str.ofString "x", L + 1 + 1 + 1 + 1 + 1 + 1 + 1 + 1 + 1 + 1), (Str.ofString "t", L + 1 + 1 + 1 + 1 + 1 + 1 + 1 + 1 + 1), (Str.ofString "m", L + 1 + 1 + 1 + 1 + 1 + 1 + 1 + 1), (Str.ofString "a", L + 1 + 1 + 1 + 1 + 1 + 1 + 1), (Str.ofString "row", L + 1 + 1 + 1 + 1 + 1 + 1), (Str.ofString "z", L + 1 + 1 + 1 + 1 + 1), (Str.ofString "vals", L + 1 + 1 + 1 + 1), (Str.ofString "roots", L + 1 + 1 + 1), (Str.ofString "n", L + 1 + 1), (Str.ofString "q", L + 1)])) (S5 h₀ L m news s [] [] fun m' _ => m' = m) E s := by
  obtain rfl : _ = st := Option.some.inj (hst : some _ = some st)
  obtain rfl : _ = scope := Option.some.inj (hsc : some _ = some scope)
  clear hst hsc
  refine RingIn.elim hr ?_
  clear hr
  intro dr h1r k1r h2r k2r tqr tnr cr hr1 hr2
  obtain ⟨ps1, hP1, ht1⟩ := ht1
  obtain ⟨ps2, hP2, ht2⟩ := ht2
  obtain ⟨oq, mq, xq⟩ := hcq
  obtain ⟨on, mn, xn⟩ := hcn
  obtain ⟨or, mr, xr⟩ := hcr
  obtain ⟨ov, mv, xv⟩ := hcv
  have hlr : rs.length = n := hro.len
  revert X; k_fill; intro X

  have hlx := ev.lenx hro
  have hlc := ev.len
  obtain ⟨f, df, h3, k3, h4, k4, l, vs, k, cf, rfl, hp1, hp2, hp3, hi⟩ := pv
  refine wpAny_If (wpAny_isTrue_Compare1 ?_)
  refine ListComp_L5 (news := news) (fun c => Int.fmod c q) (by omega) hp3 hi F N (by with_unfolding_all rfl) (by decide) (by rfl) (by decide) (by rfl) (by intro _; rfl) rfl ?hi ?turn ?fin
  case hi =>
    k_steps
  case turn =>
    intro c9 t C oC m₂ h tk E' hk9 hC hx F' N'
    have N9 := newsTail N'
    refine wpAny_BinOp (wpAny_Name (wpAny_loadName_local (by rfl) (by rfl) (hC.ns (N' _ List.mem_cons_self).1) hx ?_))
    refine wpAny_Name (wpAny_loadName_cell (by rfl) (by rfl) (by rfl) ⟨_, (N9 _ mq).1, xq⟩ ?_)
    refine PyProof.Rows.mod_int (by omega) ?_
    exact ⟨_, _, rfl, rfl⟩
  case fin =>
    intro D h tk ys F1 N1 iy off
    have N9 := newsTail N1
    refine Call_ (Name_function_global (by rfl) (by rfl) (loadGlobal_global (show Heap.Ns _ mainGlobals mg from T.g.keeps F1.keep) (mg_of X T.g (by k_is)) ?_))
    refine callWith_K X (by k_is) ?_ (he := rfl) (hplain := rfl)
    refine args_cons (wpAny_Name (loadName_L F1 hm_v ?_ rfl rfl))
    refine args_cons (wpAny_Name (wpAny_loadName_cell (by rfl) (by rfl) (by rfl) ⟨_, (N9 _ mr).1, xr⟩ ?_))
    refine args_cons (wpAny_Name (wpAny_loadName_cell (by rfl) (by rfl) (by rfl) ⟨_, (N9 _ mq).1, xq⟩ (args_nil ?_)))
    refine ⟨by k_in, wpAny_call ?_⟩
    refine SpecT.use (told_spec w mean mg mb ((D, LCg.lst ys) :: news) w9 (.ref lr) xs rs q tq (lw.mono fun p hp => List.mem_cons_of_mem _ hp) ⟨lr, vsr, kr, rfl, List.mem_cons_of_mem _ hmr, hir⟩ (by omega) (by omega) (ev.rng (by omega)) (fun x hx => ⟨by have := hro.rng x hx; omega, (hro.rng x hx).2⟩) hq hq2 (by rw [hlr]; exact hro.nq)) B F1 X N1 (List.mem_cons_of_mem _ hP2) ht2 hC2 hG T rfl (by omega) (by omega) fun r ps' nw3 s3 F3 N3 hs3 hP3 ht3 G3 hos3 hr3 => ?_
    obtain ⟨l', vs', k', rfl, m', i', n'⟩ := hr3
    have mD : (D, LCg.lst ys) ∈ nw3 := hs3 _ List.mem_cons_self (Ne.symm (off _ hP2))
    refine ne_intsK (News.isList N3 mD) iy (News.isList N3 m') i' (by ktr_units) (wpAny_truthy_bool ?_)
    rw [ev_told hro hq ev, if_neg (by simp)]
    refine wpAny_execs_nil ?_
    have hs9 : ∀ p ∈ news, p.1 ≠ 241 → p ∈ nw3 := fun p hp hne => hs3 p (List.mem_cons_of_mem _ hp) hne
    exact ⟨rfl, m, nw3, F3, N3, .ofT N hP2 hs9, .ofT N hP2 hs9, ⟨ps1, hs9 _ hP1 (show (234 : Addr) ≠ 241 by decide), ht1⟩, ⟨ps', hP3, ht3⟩, fun _ _ => rfl, G3, hos3, rfl⟩
theorem walkOff23 : True := by
  w_top off
  trivial
set_option maxHeartbeats 4000000 in
theorem ybl12 (st : List Stmt) (hst : loopTail? PySem.Challenge.rw_xy0002_05.row.toRowW.prog 7 12 = some st)
    (scope : Scope) (hsc : lawScope? PySem.Challenge.rw_xy0002_05.row.toRowW.prog = some scope)
    (w : World) (mean : ExcName → Option Value) (mg mb : Str → Option Value) (dp un : Nat) (gd : Option (List Code)) (a : Addr) (ccd : Value) (outer : List Env) (A₀ : Around) (base h₀ : Heap) (L : Addr) (m : Str → Option Value) (s : Shared) (E : Value → Shared → Prop) (news : Led)
    (sl rg lr lh lv : Addr) (n : Nat) (q : Int) (tn tq : Tok) (svs vsr : List Value) (sns rs : List Int) (kr : Nat)
    (B : Below A₀ base outer h₀) (hS : base.IsList sl svs.toArray) (X : (hd05.heap_39 w.params).In h₀) (T : Top topProg (looseW Mine05.view [] ++ (recsOf Mine05.view).map (·.name) ++ (litsOf Mine05.view).map (·.1) ++ (clssOf Mine05.view (looseW Mine05.view [])).map (·.name)) mean mg mb h₀) (hdp : dp + 100 < recursionLimit) (hun : un + 800 < cLine)
    (hsi : IntsAre svs sns) (hsb : ∀ x ∈ sns, Builtin.Int.intBits x ≤ 2 ^ 20) (hsl : sns.length ≤ 63)
    (hC1 : CodeHd h₀ 238 234) (hC2 : CodeHd h₀ 243 241) (ht1 : Tab 234 news) (ht2 : Tab 241 news) (hG : AllBare s.gens)
    (hcq : Cell news (L+1) (some (.int q tq))) (hcn : Cell news (L+1+1) (some (.int (n : Int) tn))) (hcr : Cell news (L+1+1+1) (some (.ref lr))) (hcv : Cell news (L+1+1+1+1) (some (.ref lv)))
    (h1n : 1 ≤ n) (hn : n ≤ 8) (hq : 2 ≤ q) (hq2 : q ≤ 256) (hro : RootsOk q n rs) (hr : RingIn news rg q n) (hmr : (lr, W.listOf vsr.toArray kr) ∈ news) (hir : IntsAre vsr rs)
    (hm_s : m (Str.ofString "script") = some (.ref sl)) (hm_r : m (Str.ofString "ring") = some (.ref rg)) (hm_h : m (Str.ofString "have") = some (.ref lh))

    (v w9 : Value) (cs xs : List Int) (hm_n : m (Str.ofString "new") = some v) (hm_v : m (Str.ofString "val") = some w9) (pv : PolyIn news v rg cs) (lw : ListIn news w9 xs) (ev : Ev q n rs cs xs) (k3 : Nat) (t3 : Tok) (hk3 : k3 < 3) (hct : Cell news (L+1+1+1+1+1+1+1+1+1) (some (.int (k3 : Int) t3))) (H : HV (fun _ => Ev q n rs) news rg lh lv 3) (I : Addr) (oI : Obj) (hI0 : (I, oI) ∈ news) (hI1 : ∀ ps, oI ≠ tabObj ps) (hI2 : ∀ v, oI.data ≠ .cell v) (hI3 : oI.cls = .type "range_iterator") (hco : ∀ c ∈ ([(L+1+1+1+1+1), (L+1+1+1+1+1+1), (L+1+1+1+1+1+1+1), (L+1+1+1+1+1+1+1+1), (L+1+1+1+1+1+1+1+1+1), (L+1+1+1+1+1+1+1+1+1+1), (L+1+1+1+1+1+1+1+1+1+1+1), (L+1+1+1+1+1+1+1+1+1+1+1+1)] : List Addr), ∃ v, Cell news c v)
    (F : Fr h₀ L s.heap m) (N : News h₀ L s.heap news) :
    wpAny (model PySem.Challenge.rw_xy0002_05.row.toRowW.prog w) (ktrTop dp un gd (Str.ofString "law") scope L a ccd [(Str.ofString "e", L + 1 + 1 + 1 + 1 + 1 + 1 + 1 + 1 + 1 + 1 + 1 + 1), (Str.ofString "y", L + 1 + 1 + 1 + 1 + 1 + 1 + 1 + 1 + 1 + 1 + 1), (Str.ofString "x", L + 1 + 1 + 1 + 1 + 1 + 1 + 1 + 1 + 1 + 1), (Str.ofString "t", L + 1 + 1 + 1 + 1 + 1 + 1 + 1 + 1 + 1), (Str.ofString "m", L + 1 + 1 + 1 + 1 + 1 + 1 + 1 + 1), (Str.ofString "a", L + 1 + 1 + 1 + 1 + 1 + 1 + 1), (Str.ofString "row", L + 1 + 1 + 1 + 1 + 1 + 1), (Str.ofString "z", L + 1 + 1 + 1 + 1 + 1), (Str.ofString "vals", L + 1 + 1 + 1 + 1), (Str.ofString "roots", L + 1 + 1 + 1), (Str.ofString "n", L + 1 + 1), (Str.ofString "q", L + 1)] outer) (execs st (envX (Str.ofString "law") scope L a ccd [(Str.ofString "e", L + 1 + 1 + 1 + 1 + 1 + 1 + 1 + 1 + 1 + 1 + 1 + 1), (Str.ofString "y", L + 1 + 1 + 1 + 1 + 1 + 1 + 1 + 1 + 1 + 1 + 1), (Str.ofString "x", L + 1 + 1 + 1 + 1 + 1 + 1 + 1 + 1 + 1 + 1), (Str.ofString "t", L + 1 + 1 + 1 + 1 + 1 + 1 + 1 + 1 + 1), (Str.ofString "m", L + 1 + 1 + 1 + 1 + 1 + 1 + 1 + 1), (Str.ofString "a", L + 1 + 1 + 1 + 1 + 1 + 1 + 1), (Str.ofString "row", L + 1 + 1 + 1 + 1 + 1 + 1), (Str.ofString "z", L + 1 + 1 + 1 + 1 + 1), (Str.ofString "vals", L + 1 + 1 + 1 + 1), (Str.ofString "roots", L + 1 + 1 + 1), (Str.ofString "n", L + 1 + 1), (Str.ofString "q", L + 1)])) (FEnd h₀ L s I oI (LI (fun _ => Ev q n rs) L q n tq tn rs vsr kr sl rg lr lh lv 3)) E s := by
  obtain ⟨hvs, wvs, kh, kv, l1, l2, mh, mv9, hp⟩ := H
  have hr9 := hr
  have hcq9 := hcq
  have hcn9 := hcn
  have hcr9 := hcr
  have hcv9 := hcv
  have ht19 := ht1
  have ht29 := ht2
  obtain rfl : _ = st := Option.some.inj (hst : some _ = some st)
  obtain rfl : _ = scope := Option.some.inj (hsc : some _ = some scope)
  clear hst hsc
  refine RingIn.elim hr ?_
  clear hr
  intro dr h1r k1r h2r k2r tqr tnr cr hr1 hr2
  obtain ⟨ps1, hP1, ht1⟩ := ht1
  obtain ⟨ps2, hP2, ht2⟩ := ht2
  obtain ⟨oq, mq, xq⟩ := hcq
  obtain ⟨on, mn, xn⟩ := hcn
  obtain ⟨or, mr, xr⟩ := hcr
  obtain ⟨ov, mv, xv⟩ := hcv
  have hlr : rs.length = n := hro.len
  revert X; k_fill; intro X

  obtain ⟨ot, mt, xt⟩ := hct
  have href : ∃ f, hvs[0]? = some (.ref f) ∧ ∃ d, (f, instObj 220 d) ∈ news := by
    obtain ⟨v, w, cs, xs, e1, e2, p, l, ev⟩ := hp 0 (by omega)
    obtain ⟨f, d, h1, k1, h2, k2, l', vs, k, c, e, m1, m2, m3, i3⟩ := p
    exact ⟨f, e ▸ e1, d, m1⟩
  have hrew : ∃ l, wvs[0]? = some (.ref l) ∧ ∃ vs k, (l, W.listOf vs k) ∈ news := by
    obtain ⟨v, w, cs, xs, e1, e2, p, l, ev⟩ := hp 0 (by omega)
    obtain ⟨l', vs, k, e, m1, i3⟩ := l
    exact ⟨l', e ▸ e2, _, k, m1⟩
  obtain ⟨f0, hf0, d0, mf0⟩ := href
  obtain ⟨l0, hl0, vs0, kk0, ml0⟩ := hrew
  have hne : W.listOf hvs.toArray kh ≠ W.listOf wvs.toArray kv := fun e => by
    have e1 : Data.seq hvs.toArray kh = Data.seq wvs.toArray kv := congrArg Obj.data e
    injection e1 with e1 _
    obtain rfl : hvs = wvs := by simpa using congrArg Array.toList e1
    rw [hf0] at hl0
    cases hl0
    have := (N _ mf0).1.symm.trans (N _ ml0).1
    cases this
  have hlhv : lv ≠ lh := ob_ne (N _ mh).1 (N _ mv9).1 (Ne.symm hne)
  have hn1 : NoInts hvs := noInts_ref hf0
  have hn2 : NoInts wvs := noInts_ref hl0
  refine wpAny_execs_cons (wpAny_Assign_Subscript (wpAny_Name (loadName_L F hm_n (wpAny_Name (loadName_L F hm_h (wpAny_Name (wpAny_loadName_cell (by rfl) (by rfl) (by rfl) ⟨_, (N _ mt).1, xt⟩ (set_L F N mh (by omega) (by omega) fun h1 F1 N1 => ?_))) rfl rfl)) rfl rfl)) (by with_unfolding_all rfl))
  have in1 : ∀ a o, (a, o) ∈ news → o ≠ W.listOf hvs.toArray kh → (a, o) ∈ (lh, W.listOf (hvs.set k3 v).toArray kh) :: offP lh news := fun a o hm hn => List.mem_cons_of_mem _ (mem_offP hm (ob_ne (N _ mh).1 (N _ hm).1 hn))
  have mt1 := in1 _ _ mt (by rintro rfl; cases xt)
  have mv1 := in1 _ _ mv (by rintro rfl; cases xv)
  have mw1 := in1 _ _ mv9 (Ne.symm hne)
  refine wpAny_execs_cons (wpAny_Assign_Subscript (wpAny_Name (loadName_L F1 hm_v (wpAny_Name (wpAny_loadName_cell (by rfl) (by rfl) (by rfl) ⟨_, (N1 _ mv1).1, xv⟩ (wpAny_Name (wpAny_loadName_cell (by rfl) (by rfl) (by rfl) ⟨_, (N1 _ mt1).1, xt⟩ (set_L F1 N1 mw1 (by omega) (by omega) fun h2 F2 N2 => ?_))))) rfl rfl)) (by with_unfolding_all rfl))
  refine wpAny_execs_nil ?_
  have in2 := fun a o (hm : (a, o) ∈ (lh, W.listOf (hvs.set k3 v).toArray kh) :: offP lh news) hn => (List.mem_cons_of_mem (lv, W.listOf (wvs.set k3 w9).toArray kv) (mem_offP hm (ob_ne (N1 _ mw1).1 (N1 _ hm).1 hn)) : (a, o) ∈ (lv, W.listOf (wvs.set k3 w9).toArray kv) :: offP lv ((lh, W.listOf (hvs.set k3 v).toArray kh) :: offP lh news))
  have mI := in2 _ _ (in1 _ _ hI0 (cls_ne (c' := .type "list") hI3 rfl (by decide))) (cls_ne (c' := .type "list") hI3 rfl (by decide))
  have hK : LI (fun _ => Ev q n rs) L q n tq tn rs vsr kr sl rg lr lh lv 3 m ((lv, W.listOf (wvs.set k3 w9).toArray kv) :: offP lv ((lh, W.listOf (hvs.set k3 v).toArray kh) :: offP lh news)) := by
    refine ⟨(hcq9.restL in1).restL in2, (hcn9.restL in1).restL in2, (hcr9.restL in1).restL in2, (hcv9.restL in1).restL in2, fun c hc => let ⟨x, z⟩ := hco c hc; ⟨x, (z.restL in1).restL in2⟩, (ht19.restL in1).restL in2, (ht29.restL in1).restL in2, (hr9.restL in1).restL in2, in2 _ _ (in1 _ _ hmr (lists_ne hir hn1)) (lists_ne hir hn2), hir, ?_, hm_s, hm_r, hm_h⟩
    refine ⟨hvs.set k3 v, wvs.set k3 w9, kh, kv, by simp [l1], by simp [l2], List.mem_cons_of_mem _ (mem_offP List.mem_cons_self (Ne.symm hlhv)), List.mem_cons_self, fun i hi => ?_⟩
    by_cases e : i = k3
    · subst e
      exact ⟨v, w9, cs, xs, List.getElem?_set_self (by omega), List.getElem?_set_self (by omega), (pv.restL hn1 in1).restL hn2 in2, (lw.restL hn1 in1).restL hn2 in2, ev⟩
    · obtain ⟨v', w', cs', xs', e1, e2, p, l, ev'⟩ := hp i hi
      exact ⟨v', w', cs', xs', by rw [List.getElem?_set_ne (by omega)]; exact e1, by rw [List.getElem?_set_ne (by omega)]; exact e2, (p.restL hn1 in1).restL hn2 in2, (l.restL hn1 in1).restL hn2 in2, ev'⟩
  refine ⟨m, offP I _, _, rfl, F2, N2, mI, fun p hp => (of_offP hp).1, fun p hp => (of_offP hp).2, hG, rfl, hK.restI hI1 hI2 hI3 fun a o hm hn => mem_offP hm (ob_ne (N2 _ mI).1 (N2 _ hm).1 hn)⟩
theorem walkOff24 : True := by
  w_top off
  trivial
set_option maxHeartbeats 4000000 in
theorem ybr0 (st : List Stmt) (hst : (loopStmt? PySem.Challenge.rw_xy0002_05.row.toRowW.prog 7 10).bind (ifBody? 0) = some st)
    (scope : Scope) (hsc : lawScope? PySem.Challenge.rw_xy0002_05.row.toRowW.prog = some scope)
    (w : World) (mean : ExcName → Option Value) (mg mb : Str → Option Value) (dp un : Nat) (gd : Option (List Code)) (a : Addr) (ccd : Value) (outer : List Env) (A₀ : Around) (base h₀ : Heap) (L : Addr) (m : Str → Option Value) (s : Shared) (E : Value → Shared → Prop) (news : Led)
    (sl rg lr lh lv : Addr) (n : Nat) (q : Int) (tn tq : Tok) (svs vsr : List Value) (sns rs : List Int) (kr : Nat)
    (B : Below A₀ base outer h₀) (hS : base.IsList sl svs.toArray) (X : (hd05.heap_39 w.params).In h₀) (T : Top topProg (looseW Mine05.view [] ++ (recsOf Mine05.view).map (·.name) ++ (litsOf Mine05.view).map (·.1) ++ (clssOf Mine05.view (looseW Mine05.view [])).map (·.name)) mean mg mb h₀) (hdp : dp + 100 < recursionLimit) (hun : un + 800 < cLine)
    (hsi : IntsAre svs sns) (hsb : ∀ x ∈ sns, Builtin.Int.intBits x ≤ 2 ^ 20) (hsl : sns.length ≤ 63)
    (hC1 : CodeHd h₀ 238 234) (hC2 : CodeHd h₀ 243 241) (ht1 : Tab 234 news) (ht2 : Tab 241 news) (hG : AllBare s.gens)
    (hcq : Cell news (L+1) (some (.int q tq))) (hcn : Cell news (L+1+1) (some (.int (n : Int) tn))) (hcr : Cell news (L+1+1+1) (some (.ref lr))) (hcv : Cell news (L+1+1+1+1) (some (.ref lv)))
    (h1n : 1 ≤ n) (hn : n ≤ 8) (hq : 2 ≤ q) (hq2 : q ≤ 256) (hro : RootsOk q n rs) (hr : RingIn news rg q n) (hmr : (lr, W.listOf vsr.toArray kr) ∈ news) (hir : IntsAre vsr rs)
    (hm_s : m (Str.ofString "script") = some (.ref sl)) (hm_r : m (Str.ofString "ring") = some (.ref rg)) (hm_h : m (Str.ofString "have") = some (.ref lh))

    (vf vg : Value) (fcs gcs xs ys : List Int) (hm_f : m (Str.ofString "f") = some vf) (hm_g : m (Str.ofString "g") = some vg) (pf : PolyIn news vf rg fcs) (pg : PolyIn news vg rg gcs) (wx wy : Value) (lx : ListIn news wx xs) (ly : ListIn news wy ys) (hcx : Cell news (L+1+1+1+1+1+1+1+1+1+1) (some wx)) (hcy : Cell news (L+1+1+1+1+1+1+1+1+1+1+1) (some wy)) (evf : Ev q n rs fcs xs) (evg : Ev q n rs gcs ys) (xm : Int) (tm : Tok) (hbm : Builtin.Int.intBits xm ≤ 2 ^ 20) (hcm : Cell news (L+1+1+1+1+1+1+1+1) (some (.int xm tm)))
    (F : Fr h₀ L s.heap m) (N : News h₀ L s.heap news) :
    wpAny (model PySem.Challenge.rw_xy0002_05.row.toRowW.prog w) (ktrTop dp un gd (Str.ofString "law") scope L a ccd [(Str.ofString "e", L + 1 + 1 + 1 + 1 + 1 + 1 + 1 + 1 + 1 + 1 + 1 + 1), (Str.ofString "y", L + 1 + 1 + 1 + 1 + 1 + 1 + 1 + 1 + 1 + 1 + 1), (Str.ofString "x", L + 1 + 1 + 1 + 1 + 1 + 1 + 1 + 1 + 1 + 1), (Str.ofString "t", L + 1 + 1 + 1 + 1 + 1 + 1 + 1 + 1 + 1), (Str.ofString "m", L + 1 + 1 + 1 + 1 + 1 + 1 + 1 + 1), (Str.ofString "a", L + 1 + 1 + 1 + 1 + 1 + 1 + 1), (Str.ofString "row", L + 1 + 1 + 1 + 1 + 1 + 1), (Str.ofString "z", L + 1 + 1 + 1 + 1 + 1), (Str.ofString "vals", L + 1 + 1 + 1 + 1), (Str.ofString "roots", L + 1 + 1 + 1), (Str.ofString "n", L + 1 + 1), (Str.ofString "q", L + 1)] outer) (execs st (envX (Str.ofString "law") scope L a ccd [(Str.ofString "e", L + 1 + 1 + 1 + 1 + 1 + 1 + 1 + 1 + 1 + 1 + 1 + 1), (Str.ofString "y", L + 1 + 1 + 1 + 1 + 1 + 1 + 1 + 1 + 1 + 1 + 1), (Str.ofString "x", L + 1 + 1 + 1 + 1 + 1 + 1 + 1 + 1 + 1 + 1), (Str.ofString "t", L + 1 + 1 + 1 + 1 + 1 + 1 + 1 + 1 + 1), (Str.ofString "m", L + 1 + 1 + 1 + 1 + 1 + 1 + 1 + 1), (Str.ofString "a", L + 1 + 1 + 1 + 1 + 1 + 1 + 1), (Str.ofString "row", L + 1 + 1 + 1 + 1 + 1 + 1), (Str.ofString "z", L + 1 + 1 + 1 + 1 + 1), (Str.ofString "vals", L + 1 + 1 + 1 + 1), (Str.ofString "roots", L + 1 + 1 + 1), (Str.ofString "n", L + 1 + 1), (Str.ofString "q", L + 1)])) (S5 h₀ L m news s [Str.ofString "new", Str.ofString "val"] [(L+1+1+1+1+1+1), (L+1+1+1+1+1+1+1+1+1+1+1+1)] (NV (Ev q n rs) rg)) E s := by
  obtain rfl : _ = st := Option.some.inj (hst : some _ = some st)
  obtain rfl : _ = scope := Option.some.inj (hsc : some _ = some scope)
  clear hst hsc
  refine RingIn.elim hr ?_
  clear hr
  intro dr h1r k1r h2r k2r tqr tnr cr hr1 hr2
  obtain ⟨ps1, hP1, ht1⟩ := ht1
  obtain ⟨ps2, hP2, ht2⟩ := ht2
  obtain ⟨oq, mq, xq⟩ := hcq
  obtain ⟨on, mn, xn⟩ := hcn
  obtain ⟨or, mr, xr⟩ := hcr
  obtain ⟨ov, mv, xv⟩ := hcv
  have hlr : rs.length = n := hro.len
  revert X; k_fill; intro X

  have hlf := evf.len
  have hlg := evg.len
  have hlx := evf.lenx hro
  have hly := evg.lenx hro
  have hbf := evf.bd
  have hbg := evg.bd
  refine step_S5 (h₀ := h₀) (L := L) (m := m) (news := news) (names := [Str.ofString "new"]) (cs := [(L+1+1+1+1+1+1), (L+1+1+1+1+1+1+1+1+1+1+1+1)]) (R := fun m' nw => ∃ v, m' (Str.ofString "new") = some v ∧ PolyIn nw v rg (List.zipWith (fun x y => Int.fmod (x + y) q) fcs gcs)) ?_ ?_
  · skip
    obtain ⟨f, df, h3, k3, h4, k4, l, vs, k, cf, rfl, hp1, hp2, hp3, hi⟩ := pf
    obtain ⟨f', df', h3', k3', h4', k4', l', vs', k', cf', rfl, hp1', hp2', hp3', hi'⟩ := pg
    k_steps
    exact S5.sub (by k_asm) (by k_asm) (by intro p hp; k_mem) hP1 ht1 hP2 ht2 (fun z hz => m_one hz) hG rfl ⟨_, if_pos rfl, PolyIn.mk' (by k_mem) (by k_mem) (by k_mem) (by assumption)⟩
  · skip
    intro m1 nw s1 F1 N1 hk hc t1 t2 hm1 G1 hos1 hr1
    obtain ⟨v, hv, pv⟩ := hr1
    obtain ⟨l1, vs1, k1, rfl, ml1, il1⟩ := lx.k5 hk
    obtain ⟨on, mn, xn⟩ := hc _ _ (offE 2 rfl rfl) ⟨on, mn, xn⟩
    obtain ⟨oq, mq, xq⟩ := hc _ _ (offE 1 rfl rfl) ⟨oq, mq, xq⟩
    obtain ⟨ox, mx, xx⟩ := hc _ _ (offE 10 rfl rfl) hcx
    obtain ⟨l2, vs2, k2, rfl, ml2, il2⟩ := ly.k5 hk
    obtain ⟨oy, my, xy⟩ := hc _ _ (offE 11 rfl rfl) hcy
    refine wpAny_execs_cons (Assign_R5 (news := nw) n (fun s => Int.fmod (xs.getD s 0 + ys.getD s 0) q) (by omega) F1 (by with_unfolding_all rfl) (by with_unfolding_all rfl) (by decide) (by rfl) (by decide) (by rfl) (by rfl) (by rfl) (by intro _; rfl) rfl ?hi ?turn ?fin)
    case hi =>
      refine Call_ (Name_function_global (by rfl) (by rfl) (loadGlobal_builtin (show Heap.Ns _ mainGlobals mg from T.g.keeps F1.keep) (mg_none_of X T.g (by k_is)) (T.b.keeps F1.keep) ((T.builtins "range" (by decide)).trans PyProof.Rows.boot_range) ?_))
      refine PyProof.Rows.callWith_type1 (args_cons (wpAny_Name (wpAny_loadName_cell (by rfl) (by rfl) (by rfl) ⟨_, (N1 _ mn).1, xn⟩ (args_nil ?_))))
      exact range1_rows F1 N1 fun h1 tk1 t1 u1 v1 hr1 Fr1 Nr1 kr1 => ⟨_, _, _, _, _, _, rfl, rfl, Fr1, Nr1, hr1⟩
    case turn =>
      intro i t C oC m₂ h tk E' hi hC hx F' N'
      have N9 := newsTail N'
      have hnC := hC.ns (N' _ List.mem_cons_self).1
      obtain ⟨tha, ha⟩ := ints_getD il1 (i := i) (by omega)
      refine wpAny_BinOp (wpAny_BinOp (Subscript_ (wpAny_Name (wpAny_loadName_cell (by rfl) (by rfl) (by rfl) ⟨_, (N9 _ mx).1, xx⟩ (wpAny_Name (wpAny_loadName_local (by rfl) (by rfl) hnC hx ?_))))))
      refine item_L N9 ml1 ha (by omega) ?_
      obtain ⟨thb, hb⟩ := ints_getD il2 (i := i) (by omega)
      refine Subscript_ (wpAny_Name (wpAny_loadName_cell (by rfl) (by rfl) (by rfl) ⟨_, (N9 _ my).1, xy⟩ (wpAny_Name (wpAny_loadName_local (by rfl) (by rfl) hnC hx ?_))))
      refine item_L N9 ml2 hb (by omega) ?_
      refine PyProof.Rows.add_int ?_
      refine wpAny_Name (wpAny_loadName_cell (by rfl) (by rfl) (by rfl) ⟨_, (N9 _ mq).1, xq⟩ ?_)
      refine PyProof.Rows.mod_int (by omega) ?_
      exact ⟨_, _, rfl, rfl⟩
    case fin =>
      intro D h tk zs F' N' iz
      refine wpAny_execs_nil ?_
      refine S5.two hk hc t1 t2 F' N' (fun p hp => List.mem_cons_of_mem _ hp) (fun z hz => (if_neg (cont2 hz).2).trans (hm1 z (cont2 hz).1)) G1 hos1 ?_
      exact ⟨_, _, _, _, (if_neg (by decide)).trans hv, if_pos rfl, pv.mono (fun p hp => List.mem_cons_of_mem _ hp), ⟨_, _, _, rfl, List.mem_cons_self, iz⟩, ev_add hro hq hq2 evf evg⟩
theorem walkOff25 : True := by
  w_top off
  trivial
set_option maxHeartbeats 4000000 in
theorem ybr1 (st : List Stmt) (hst : (loopStmt? PySem.Challenge.rw_xy0002_05.row.toRowW.prog 7 10).bind (ifBody? 1) = some st)
    (scope : Scope) (hsc : lawScope? PySem.Challenge.rw_xy0002_05.row.toRowW.prog = some scope)
    (w : World) (mean : ExcName → Option Value) (mg mb : Str → Option Value) (dp un : Nat) (gd : Option (List Code)) (a : Addr) (ccd : Value) (outer : List Env) (A₀ : Around) (base h₀ : Heap) (L : Addr) (m : Str → Option Value) (s : Shared) (E : Value → Shared → Prop) (news : Led)
    (sl rg lr lh lv : Addr) (n : Nat) (q : Int) (tn tq : Tok) (svs vsr : List Value) (sns rs : List Int) (kr : Nat)
    (B : Below A₀ base outer h₀) (hS : base.IsList sl svs.toArray) (X : (hd05.heap_39 w.params).In h₀) (T : Top topProg (looseW Mine05.view [] ++ (recsOf Mine05.view).map (·.name) ++ (litsOf Mine05.view).map (·.1) ++ (clssOf Mine05.view (looseW Mine05.view [])).map (·.name)) mean mg mb h₀) (hdp : dp + 100 < recursionLimit) (hun : un + 800 < cLine)
    (hsi : IntsAre svs sns) (hsb : ∀ x ∈ sns, Builtin.Int.intBits x ≤ 2 ^ 20) (hsl : sns.length ≤ 63)
    (hC1 : CodeHd h₀ 238 234) (hC2 : CodeHd h₀ 243 241) (ht1 : Tab 234 news) (ht2 : Tab 241 news) (hG : AllBare s.gens)
    (hcq : Cell news (L+1) (some (.int q tq))) (hcn : Cell news (L+1+1) (some (.int (n : Int) tn))) (hcr : Cell news (L+1+1+1) (some (.ref lr))) (hcv : Cell news (L+1+1+1+1) (some (.ref lv)))
    (h1n : 1 ≤ n) (hn : n ≤ 8) (hq : 2 ≤ q) (hq2 : q ≤ 256) (hro : RootsOk q n rs) (hr : RingIn news rg q n) (hmr : (lr, W.listOf vsr.toArray kr) ∈ news) (hir : IntsAre vsr rs)
    (hm_s : m (Str.ofString "script") = some (.ref sl)) (hm_r : m (Str.ofString "ring") = some (.ref rg)) (hm_h : m (Str.ofString "have") = some (.ref lh))

    (vf vg : Value) (fcs gcs xs ys : List Int) (hm_f : m (Str.ofString "f") = some vf) (hm_g : m (Str.ofString "g") = some vg) (pf : PolyIn news vf rg fcs) (pg : PolyIn news vg rg gcs) (wx wy : Value) (lx : ListIn news wx xs) (ly : ListIn news wy ys) (hcx : Cell news (L+1+1+1+1+1+1+1+1+1+1) (some wx)) (hcy : Cell news (L+1+1+1+1+1+1+1+1+1+1+1) (some wy)) (evf : Ev q n rs fcs xs) (evg : Ev q n rs gcs ys) (xm : Int) (tm : Tok) (hbm : Builtin.Int.intBits xm ≤ 2 ^ 20) (hcm : Cell news (L+1+1+1+1+1+1+1+1) (some (.int xm tm)))
    (F : Fr h₀ L s.heap m) (N : News h₀ L s.heap news) :
    wpAny (model PySem.Challenge.rw_xy0002_05.row.toRowW.prog w) (ktrTop dp un gd (Str.ofString "law") scope L a ccd [(Str.ofString "e", L + 1 + 1 + 1 + 1 + 1 + 1 + 1 + 1 + 1 + 1 + 1 + 1), (Str.ofString "y", L + 1 + 1 + 1 + 1 + 1 + 1 + 1 + 1 + 1 + 1 + 1), (Str.ofString "x", L + 1 + 1 + 1 + 1 + 1 + 1 + 1 + 1 + 1 + 1), (Str.ofString "t", L + 1 + 1 + 1 + 1 + 1 + 1 + 1 + 1 + 1), (Str.ofString "m", L + 1 + 1 + 1 + 1 + 1 + 1 + 1 + 1), (Str.ofString "a", L + 1 + 1 + 1 + 1 + 1 + 1 + 1), (Str.ofString "row", L + 1 + 1 + 1 + 1 + 1 + 1), (Str.ofString "z", L + 1 + 1 + 1 + 1 + 1), (Str.ofString "vals", L + 1 + 1 + 1 + 1), (Str.ofString "roots", L + 1 + 1 + 1), (Str.ofString "n", L + 1 + 1), (Str.ofString "q", L + 1)] outer) (execs st (envX (Str.ofString "law") scope L a ccd [(Str.ofString "e", L + 1 + 1 + 1 + 1 + 1 + 1 + 1 + 1 + 1 + 1 + 1 + 1), (Str.ofString "y", L + 1 + 1 + 1 + 1 + 1 + 1 + 1 + 1 + 1 + 1 + 1), (Str.ofString "x", L + 1 + 1 + 1 + 1 + 1 + 1 + 1 + 1 + 1 + 1), (Str.ofString "t", L + 1 + 1 + 1 + 1 + 1 + 1 + 1 + 1 + 1), (Str.ofString "m", L + 1 + 1 + 1 + 1 + 1 + 1 + 1 + 1), (Str.ofString "a", L + 1 + 1 + 1 + 1 + 1 + 1 + 1), (Str.ofString "row", L + 1 + 1 + 1 + 1 + 1 + 1), (Str.ofString "z", L + 1 + 1 + 1 + 1 + 1), (Str.ofString "vals", L + 1 + 1 + 1 + 1), (Str.ofString "roots", L + 1 + 1 + 1), (Str.ofString "n", L + 1 + 1), (Str.ofString "q", L + 1)])) (S5 h₀ L m news s [Str.ofString "new", Str.ofString "val"] [(L+1+1+1+1+1+1), (L+1+1+1+1+1+1+1+1+1+1+1+1)] (NV (Ev q n rs) rg)) E s := by
  obtain rfl : _ = st := Option.some.inj (hst : some _ = some st)
  obtain rfl : _ = scope := Option.some.inj (hsc : some _ = some scope)
  clear hst hsc
  refine RingIn.elim hr ?_
  clear hr
  intro dr h1r k1r h2r k2r tqr tnr cr hr1 hr2
  obtain ⟨ps1, hP1, ht1⟩ := ht1
  obtain ⟨ps2, hP2, ht2⟩ := ht2
  obtain ⟨oq, mq, xq⟩ := hcq
  obtain ⟨on, mn, xn⟩ := hcn
  obtain ⟨or, mr, xr⟩ := hcr
  obtain ⟨ov, mv, xv⟩ := hcv
  have hlr : rs.length = n := hro.len
  revert X; k_fill; intro X

  have hlf := evf.len
  have hlg := evg.len
  have hlx := evf.lenx hro
  have hly := evg.lenx hro
  have hbf := evf.bd
  have hbg := evg.bd
  refine step_S5 (h₀ := h₀) (L := L) (m := m) (news := news) (names := [Str.ofString "new"]) (cs := [(L+1+1+1+1+1+1), (L+1+1+1+1+1+1+1+1+1+1+1+1)]) (R := fun m' nw => ∃ v, m' (Str.ofString "new") = some v ∧ PolyIn nw v rg (List.zipWith (fun x y => Int.fmod (x - y) q) fcs gcs)) ?_ ?_
  · skip
    obtain ⟨f, df, h3, k3, h4, k4, l, vs, k, cf, rfl, hp1, hp2, hp3, hi⟩ := pf
    obtain ⟨f', df', h3', k3', h4', k4', l', vs', k', cf', rfl, hp1', hp2', hp3', hi'⟩ := pg
    k_steps
    exact S5.sub (by k_asm) (by k_asm) (by intro p hp; k_mem) hP1 ht1 hP2 ht2 (fun z hz => m_one hz) hG rfl ⟨_, if_pos rfl, PolyIn.mk' (by k_mem) (by k_mem) (by k_mem) (by assumption)⟩
  · skip
    intro m1 nw s1 F1 N1 hk hc t1 t2 hm1 G1 hos1 hr1
    obtain ⟨v, hv, pv⟩ := hr1
    obtain ⟨l1, vs1, k1, rfl, ml1, il1⟩ := lx.k5 hk
    obtain ⟨on, mn, xn⟩ := hc _ _ (offE 2 rfl rfl) ⟨on, mn, xn⟩
    obtain ⟨oq, mq, xq⟩ := hc _ _ (offE 1 rfl rfl) ⟨oq, mq, xq⟩
    obtain ⟨ox, mx, xx⟩ := hc _ _ (offE 10 rfl rfl) hcx
    obtain ⟨l2, vs2, k2, rfl, ml2, il2⟩ := ly.k5 hk
    obtain ⟨oy, my, xy⟩ := hc _ _ (offE 11 rfl rfl) hcy
    refine wpAny_execs_cons (Assign_R5 (news := nw) n (fun s => Int.fmod (xs.getD s 0 - ys.getD s 0) q) (by omega) F1 (by with_unfolding_all rfl) (by with_unfolding_all rfl) (by decide) (by rfl) (by decide) (by rfl) (by rfl) (by rfl) (by intro _; rfl) rfl ?hi ?turn ?fin)
    case hi =>
      refine Call_ (Name_function_global (by rfl) (by rfl) (loadGlobal_builtin (show Heap.Ns _ mainGlobals mg from T.g.keeps F1.keep) (mg_none_of X T.g (by k_is)) (T.b.keeps F1.keep) ((T.builtins "range" (by decide)).trans PyProof.Rows.boot_range) ?_))
      refine PyProof.Rows.callWith_type1 (args_cons (wpAny_Name (wpAny_loadName_cell (by rfl) (by rfl) (by rfl) ⟨_, (N1 _ mn).1, xn⟩ (args_nil ?_))))
      exact range1_rows F1 N1 fun h1 tk1 t1 u1 v1 hr1 Fr1 Nr1 kr1 => ⟨_, _, _, _, _, _, rfl, rfl, Fr1, Nr1, hr1⟩
    case turn =>
      intro i t C oC m₂ h tk E' hi hC hx F' N'
      have N9 := newsTail N'
      have hnC := hC.ns (N' _ List.mem_cons_self).1
      obtain ⟨tha, ha⟩ := ints_getD il1 (i := i) (by omega)
      refine wpAny_BinOp (wpAny_BinOp (Subscript_ (wpAny_Name (wpAny_loadName_cell (by rfl) (by rfl) (by rfl) ⟨_, (N9 _ mx).1, xx⟩ (wpAny_Name (wpAny_loadName_local (by rfl) (by rfl) hnC hx ?_))))))
      refine item_L N9 ml1 ha (by omega) ?_
      obtain ⟨thb, hb⟩ := ints_getD il2 (i := i) (by omega)
      refine Subscript_ (wpAny_Name (wpAny_loadName_cell (by rfl) (by rfl) (by rfl) ⟨_, (N9 _ my).1, xy⟩ (wpAny_Name (wpAny_loadName_local (by rfl) (by rfl) hnC hx ?_))))
      refine item_L N9 ml2 hb (by omega) ?_
      refine PyProof.Rows.sub_int ?_
      refine wpAny_Name (wpAny_loadName_cell (by rfl) (by rfl) (by rfl) ⟨_, (N9 _ mq).1, xq⟩ ?_)
      refine PyProof.Rows.mod_int (by omega) ?_
      exact ⟨_, _, rfl, rfl⟩
    case fin =>
      intro D h tk zs F' N' iz
      refine wpAny_execs_nil ?_
      refine S5.two hk hc t1 t2 F' N' (fun p hp => List.mem_cons_of_mem _ hp) (fun z hz => (if_neg (cont2 hz).2).trans (hm1 z (cont2 hz).1)) G1 hos1 ?_
      exact ⟨_, _, _, _, (if_neg (by decide)).trans hv, if_pos rfl, pv.mono (fun p hp => List.mem_cons_of_mem _ hp), ⟨_, _, _, rfl, List.mem_cons_self, iz⟩, ev_sub hro hq hq2 evf evg⟩
theorem walkOff26 : True := by
  w_top off
  trivial
set_option maxHeartbeats 4000000 in
theorem ybr2 (st : List Stmt) (hst : (loopStmt? PySem.Challenge.rw_xy0002_05.row.toRowW.prog 7 10).bind (ifBody? 2) = some st)
    (scope : Scope) (hsc : lawScope? PySem.Challenge.rw_xy0002_05.row.toRowW.prog = some scope)
    (w : World) (mean : ExcName → Option Value) (mg mb : Str → Option Value) (dp un : Nat) (gd : Option (List Code)) (a : Addr) (ccd : Value) (outer : List Env) (A₀ : Around) (base h₀ : Heap) (L : Addr) (m : Str → Option Value) (s : Shared) (E : Value → Shared → Prop) (news : Led)
    (sl rg lr lh lv : Addr) (n : Nat) (q : Int) (tn tq : Tok) (svs vsr : List Value) (sns rs : List Int) (kr : Nat)
    (B : Below A₀ base outer h₀) (hS : base.IsList sl svs.toArray) (X : (hd05.heap_39 w.params).In h₀) (T : Top topProg (looseW Mine05.view [] ++ (recsOf Mine05.view).map (·.name) ++ (litsOf Mine05.view).map (·.1) ++ (clssOf Mine05.view (looseW Mine05.view [])).map (·.name)) mean mg mb h₀) (hdp : dp + 100 < recursionLimit) (hun : un + 800 < cLine)
    (hsi : IntsAre svs sns) (hsb : ∀ x ∈ sns, Builtin.Int.intBits x ≤ 2 ^ 20) (hsl : sns.length ≤ 63)
    (hC1 : CodeHd h₀ 238 234) (hC2 : CodeHd h₀ 243 241) (ht1 : Tab 234 news) (ht2 : Tab 241 news) (hG : AllBare s.gens)
    (hcq : Cell news (L+1) (some (.int q tq))) (hcn : Cell news (L+1+1) (some (.int (n : Int) tn))) (hcr : Cell news (L+1+1+1) (some (.ref lr))) (hcv : Cell news (L+1+1+1+1) (some (.ref lv)))
    (h1n : 1 ≤ n) (hn : n ≤ 8) (hq : 2 ≤ q) (hq2 : q ≤ 256) (hro : RootsOk q n rs) (hr : RingIn news rg q n) (hmr : (lr, W.listOf vsr.toArray kr) ∈ news) (hir : IntsAre vsr rs)
    (hm_s : m (Str.ofString "script") = some (.ref sl)) (hm_r : m (Str.ofString "ring") = some (.ref rg)) (hm_h : m (Str.ofString "have") = some (.ref lh))

    (vf vg : Value) (fcs gcs xs ys : List Int) (hm_f : m (Str.ofString "f") = some vf) (hm_g : m (Str.ofString "g") = some vg) (pf : PolyIn news vf rg fcs) (pg : PolyIn news vg rg gcs) (wx wy : Value) (lx : ListIn news wx xs) (ly : ListIn news wy ys) (hcx : Cell news (L+1+1+1+1+1+1+1+1+1+1) (some wx)) (hcy : Cell news (L+1+1+1+1+1+1+1+1+1+1+1) (some wy)) (evf : Ev q n rs fcs xs) (evg : Ev q n rs gcs ys) (xm : Int) (tm : Tok) (hbm : Builtin.Int.intBits xm ≤ 2 ^ 20) (hcm : Cell news (L+1+1+1+1+1+1+1+1) (some (.int xm tm)))
    (F : Fr h₀ L s.heap m) (N : News h₀ L s.heap news) :
    wpAny (model PySem.Challenge.rw_xy0002_05.row.toRowW.prog w) (ktrTop dp un gd (Str.ofString "law") scope L a ccd [(Str.ofString "e", L + 1 + 1 + 1 + 1 + 1 + 1 + 1 + 1 + 1 + 1 + 1 + 1), (Str.ofString "y", L + 1 + 1 + 1 + 1 + 1 + 1 + 1 + 1 + 1 + 1 + 1), (Str.ofString "x", L + 1 + 1 + 1 + 1 + 1 + 1 + 1 + 1 + 1 + 1), (Str.ofString "t", L + 1 + 1 + 1 + 1 + 1 + 1 + 1 + 1 + 1), (Str.ofString "m", L + 1 + 1 + 1 + 1 + 1 + 1 + 1 + 1), (Str.ofString "a", L + 1 + 1 + 1 + 1 + 1 + 1 + 1), (Str.ofString "row", L + 1 + 1 + 1 + 1 + 1 + 1), (Str.ofString "z", L + 1 + 1 + 1 + 1 + 1), (Str.ofString "vals", L + 1 + 1 + 1 + 1), (Str.ofString "roots", L + 1 + 1 + 1), (Str.ofString "n", L + 1 + 1), (Str.ofString "q", L + 1)] outer) (execs st (envX (Str.ofString "law") scope L a ccd [(Str.ofString "e", L + 1 + 1 + 1 + 1 + 1 + 1 + 1 + 1 + 1 + 1 + 1 + 1), (Str.ofString "y", L + 1 + 1 + 1 + 1 + 1 + 1 + 1 + 1 + 1 + 1 + 1), (Str.ofString "x", L + 1 + 1 + 1 + 1 + 1 + 1 + 1 + 1 + 1 + 1), (Str.ofString "t", L + 1 + 1 + 1 + 1 + 1 + 1 + 1 + 1 + 1), (Str.ofString "m", L + 1 + 1 + 1 + 1 + 1 + 1 + 1 + 1), (Str.ofString "a", L + 1 + 1 + 1 + 1 + 1 + 1 + 1), (Str.ofString "row", L + 1 + 1 + 1 + 1 + 1 + 1), (Str.ofString "z", L + 1 + 1 + 1 + 1 + 1), (Str.ofString "vals", L + 1 + 1 + 1 + 1), (Str.ofString "roots", L + 1 + 1 + 1), (Str.ofString "n", L + 1 + 1), (Str.ofString "q", L + 1)])) (S5 h₀ L m news s [Str.ofString "new", Str.ofString "val"] [(L+1+1+1+1+1+1), (L+1+1+1+1+1+1+1+1+1+1+1+1)] (NV (Ev q n rs) rg)) E s := by
  obtain rfl : _ = st := Option.some.inj (hst : some _ = some st)
  obtain rfl : _ = scope := Option.some.inj (hsc : some _ = some scope)
  clear hst hsc
  refine RingIn.elim hr ?_
  clear hr
  intro dr h1r k1r h2r k2r tqr tnr cr hr1 hr2
  obtain ⟨ps1, hP1, ht1⟩ := ht1
  obtain ⟨ps2, hP2, ht2⟩ := ht2
  obtain ⟨oq, mq, xq⟩ := hcq
  obtain ⟨on, mn, xn⟩ := hcn
  obtain ⟨or, mr, xr⟩ := hcr
  obtain ⟨ov, mv, xv⟩ := hcv
  have hlr : rs.length = n := hro.len
  revert X; k_fill; intro X

  have hlf := evf.len
  have hlg := evg.len
  have hlx := evf.lenx hro
  have hly := evg.lenx hro
  have hbf := evf.bd
  have hbg := evg.bd
  refine step_S5 (h₀ := h₀) (L := L) (m := m) (news := news) (names := [Str.ofString "new"]) (cs := [(L+1+1+1+1+1+1), (L+1+1+1+1+1+1+1+1+1+1+1+1)]) (R := fun m' nw => ∃ v, m' (Str.ofString "new") = some v ∧ PolyIn nw v rg (mulq q n fcs gcs)) ?_ ?_
  · skip
    obtain ⟨f, df, h3, k3, h4, k4, l, vs, k, cf, rfl, hp1, hp2, hp3, hi⟩ := pf
    obtain ⟨f', df', h3', k3', h4', k4', l', vs', k', cf', rfl, hp1', hp2', hp3', hi'⟩ := pg
    k_steps
    exact S5.sub (by k_asm) (by k_asm) (by intro p hp; k_mem) hP1 ht1 hP2 ht2 (fun z hz => m_one hz) hG rfl ⟨_, if_pos rfl, PolyIn.mk' (by k_mem) (by k_mem) (by k_mem) (by assumption)⟩
  · skip
    intro m1 nw s1 F1 N1 hk hc t1 t2 hm1 G1 hos1 hr1
    obtain ⟨v, hv, pv⟩ := hr1
    obtain ⟨l1, vs1, k1, rfl, ml1, il1⟩ := lx.k5 hk
    obtain ⟨on, mn, xn⟩ := hc _ _ (offE 2 rfl rfl) ⟨on, mn, xn⟩
    obtain ⟨oq, mq, xq⟩ := hc _ _ (offE 1 rfl rfl) ⟨oq, mq, xq⟩
    obtain ⟨ox, mx, xx⟩ := hc _ _ (offE 10 rfl rfl) hcx
    obtain ⟨l2, vs2, k2, rfl, ml2, il2⟩ := ly.k5 hk
    obtain ⟨oy, my, xy⟩ := hc _ _ (offE 11 rfl rfl) hcy
    refine wpAny_execs_cons (Assign_R5 (news := nw) n (fun s => Int.fmod (xs.getD s 0 * ys.getD s 0) q) (by omega) F1 (by with_unfolding_all rfl) (by with_unfolding_all rfl) (by decide) (by rfl) (by decide) (by rfl) (by rfl) (by rfl) (by intro _; rfl) rfl ?hi ?turn ?fin)
    case hi =>
      refine Call_ (Name_function_global (by rfl) (by rfl) (loadGlobal_builtin (show Heap.Ns _ mainGlobals mg from T.g.keeps F1.keep) (mg_none_of X T.g (by k_is)) (T.b.keeps F1.keep) ((T.builtins "range" (by decide)).trans PyProof.Rows.boot_range) ?_))
      refine PyProof.Rows.callWith_type1 (args_cons (wpAny_Name (wpAny_loadName_cell (by rfl) (by rfl) (by rfl) ⟨_, (N1 _ mn).1, xn⟩ (args_nil ?_))))
      exact range1_rows F1 N1 fun h1 tk1 t1 u1 v1 hr1 Fr1 Nr1 kr1 => ⟨_, _, _, _, _, _, rfl, rfl, Fr1, Nr1, hr1⟩
    case turn =>
      intro i t C oC m₂ h tk E' hi hC hx F' N'
      have N9 := newsTail N'
      have hnC := hC.ns (N' _ List.mem_cons_self).1
      obtain ⟨tha, ha⟩ := ints_getD il1 (i := i) (by omega)
      refine wpAny_BinOp (wpAny_BinOp (Subscript_ (wpAny_Name (wpAny_loadName_cell (by rfl) (by rfl) (by rfl) ⟨_, (N9 _ mx).1, xx⟩ (wpAny_Name (wpAny_loadName_local (by rfl) (by rfl) hnC hx ?_))))))
      refine item_L N9 ml1 ha (by omega) ?_
      obtain ⟨thb, hb⟩ := ints_getD il2 (i := i) (by omega)
      refine Subscript_ (wpAny_Name (wpAny_loadName_cell (by rfl) (by rfl) (by rfl) ⟨_, (N9 _ my).1, xy⟩ (wpAny_Name (wpAny_loadName_local (by rfl) (by rfl) hnC hx ?_))))
      refine item_L N9 ml2 hb (by omega) ?_
      refine PyProof.Rows.mul_int ?_ (mulOk_bd (bd_getD (bd_rng hq2 (evf.rng (by omega))) _) (bd_getD (bd_rng hq2 (evg.rng (by omega))) _))
      refine wpAny_Name (wpAny_loadName_cell (by rfl) (by rfl) (by rfl) ⟨_, (N9 _ mq).1, xq⟩ ?_)
      refine PyProof.Rows.mod_int (by omega) ?_
      exact ⟨_, _, rfl, rfl⟩
    case fin =>
      intro D h tk zs F' N' iz
      refine wpAny_execs_nil ?_
      refine S5.two hk hc t1 t2 F' N' (fun p hp => List.mem_cons_of_mem _ hp) (fun z hz => (if_neg (cont2 hz).2).trans (hm1 z (cont2 hz).1)) G1 hos1 ?_
      exact ⟨_, _, _, _, (if_neg (by decide)).trans hv, if_pos rfl, pv.mono (fun p hp => List.mem_cons_of_mem _ hp), ⟨_, _, _, rfl, List.mem_cons_self, iz⟩, ev_mul hro h1n hq hq2 evf evg⟩
theorem walkOff27 : True := by
  w_top off
  trivial
set_option maxHeartbeats 4000000 in
theorem ybr3 (st : List Stmt) (hst : (loopStmt? PySem.Challenge.rw_xy0002_05.row.toRowW.prog 7 10).bind (ifBody? 3) = some st)
    (scope : Scope) (hsc : lawScope? PySem.Challenge.rw_xy0002_05.row.toRowW.prog = some scope)
    (w : World) (mean : ExcName → Option Value) (mg mb : Str → Option Value) (dp un : Nat) (gd : Option (List Code)) (a : Addr) (ccd : Value) (outer : List Env) (A₀ : Around) (base h₀ : Heap) (L : Addr) (m : Str → Option Value) (s : Shared) (E : Value → Shared → Prop) (news : Led)
    (sl rg lr lh lv : Addr) (n : Nat) (q : Int) (tn tq : Tok) (svs vsr : List Value) (sns rs : List Int) (kr : Nat)
    (B : Below A₀ base outer h₀) (hS : base.IsList sl svs.toArray) (X : (hd05.heap_39 w.params).In h₀) (T : Top topProg (looseW Mine05.view [] ++ (recsOf Mine05.view).map (·.name) ++ (litsOf Mine05.view).map (·.1) ++ (clssOf Mine05.view (looseW Mine05.view [])).map (·.name)) mean mg mb h₀) (hdp : dp + 100 < recursionLimit) (hun : un + 800 < cLine)
    (hsi : IntsAre svs sns) (hsb : ∀ x ∈ sns, Builtin.Int.intBits x ≤ 2 ^ 20) (hsl : sns.length ≤ 63)
    (hC1 : CodeHd h₀ 238 234) (hC2 : CodeHd h₀ 243 241) (ht1 : Tab 234 news) (ht2 : Tab 241 news) (hG : AllBare s.gens)
    (hcq : Cell news (L+1) (some (.int q tq))) (hcn : Cell news (L+1+1) (some (.int (n : Int) tn))) (hcr : Cell news (L+1+1+1) (some (.ref lr))) (hcv : Cell news (L+1+1+1+1) (some (.ref lv)))
    (h1n : 1 ≤ n) (hn : n ≤ 8) (hq : 2 ≤ q) (hq2 : q ≤ 256) (hro : RootsOk q n rs) (hr : RingIn news rg q n) (hmr : (lr, W.listOf vsr.toArray kr) ∈ news) (hir : IntsAre vsr rs)
    (hm_s : m (Str.ofString "script") = some (.ref sl)) (hm_r : m (Str.ofString "ring") = some (.ref rg)) (hm_h : m (Str.ofString "have") = some (.ref lh))

    (vf vg : Value) (fcs gcs xs ys : List Int) (hm_f : m (Str.ofString "f") = some vf) (hm_g : m (Str.ofString "g") = some vg) (pf : PolyIn news vf rg fcs) (pg : PolyIn news vg rg gcs) (wx wy : Value) (lx : ListIn news wx xs) (ly : ListIn news wy ys) (hcx : Cell news (L+1+1+1+1+1+1+1+1+1+1) (some wx)) (hcy : Cell news (L+1+1+1+1+1+1+1+1+1+1+1) (some wy)) (evf : Ev q n rs fcs xs) (evg : Ev q n rs gcs ys) (xm : Int) (tm : Tok) (hbm : Builtin.Int.intBits xm ≤ 2 ^ 20) (hcm : Cell news (L+1+1+1+1+1+1+1+1) (some (.int xm tm)))
    (F : Fr h₀ L s.heap m) (N : News h₀ L s.heap news) :
    wpAny (model PySem.Challenge.rw_xy0002_05.row.toRowW.prog w) (ktrTop dp un gd (Str.ofString "law") scope L a ccd [(Str.ofString "e", L + 1 + 1 + 1 + 1 + 1 + 1 + 1 + 1 + 1 + 1 + 1 + 1), (Str.ofString "y", L + 1 + 1 + 1 + 1 + 1 + 1 + 1 + 1 + 1 + 1 + 1), (Str.ofString "x", L + 1 + 1 + 1 + 1 + 1 + 1 + 1 + 1 + 1 + 1), (Str.ofString "t", L + 1 + 1 + 1 + 1 + 1 + 1 + 1 + 1 + 1), (Str.ofString "m", L + 1 + 1 + 1 + 1 + 1 + 1 + 1 + 1), (Str.ofString "a", L + 1 + 1 + 1 + 1 + 1 + 1 + 1), (Str.ofString "row", L + 1 + 1 + 1 + 1 + 1 + 1), (Str.ofString "z", L + 1 + 1 + 1 + 1 + 1), (Str.ofString "vals", L + 1 + 1 + 1 + 1), (Str.ofString "roots", L + 1 + 1 + 1), (Str.ofString "n", L + 1 + 1), (Str.ofString "q", L + 1)] outer) (execs st (envX (Str.ofString "law") scope L a ccd [(Str.ofString "e", L + 1 + 1 + 1 + 1 + 1 + 1 + 1 + 1 + 1 + 1 + 1 + 1), (Str.ofString "y", L + 1 + 1 + 1 + 1 + 1 + 1 + 1 + 1 + 1 + 1 + 1), (Str.ofString "x", L + 1 + 1 + 1 + 1 + 1 + 1 + 1 + 1 + 1 + 1), (Str.ofString "t", L + 1 + 1 + 1 + 1 + 1 + 1 + 1 + 1 + 1), (Str.ofString "m", L + 1 + 1 + 1 + 1 + 1 + 1 + 1 + 1), (Str.ofString "a", L + 1 + 1 + 1 + 1 + 1 + 1 + 1), (Str.ofString "row", L + 1 + 1 + 1 + 1 + 1 + 1), (Str.ofString "z", L + 1 + 1 + 1 + 1 + 1), (Str.ofString "vals", L + 1 + 1 + 1 + 1), (Str.ofString "roots", L + 1 + 1 + 1), (Str.ofString "n", L + 1 + 1), (Str.ofString "q", L + 1)])) (S5 h₀ L m news s [Str.ofString "new", Str.ofString "val"] [(L+1+1+1+1+1+1), (L+1+1+1+1+1+1+1+1+1+1+1+1)] (NV (Ev q n rs) rg)) E s := by
  obtain rfl : _ = st := Option.some.inj (hst : some _ = some st)
  obtain rfl : _ = scope := Option.some.inj (hsc : some _ = some scope)
  clear hst hsc
  refine RingIn.elim hr ?_
  clear hr
  intro dr h1r k1r h2r k2r tqr tnr cr hr1 hr2
  obtain ⟨ps1, hP1, ht1⟩ := ht1
  obtain ⟨ps2, hP2, ht2⟩ := ht2
  obtain ⟨oq, mq, xq⟩ := hcq
  obtain ⟨on, mn, xn⟩ := hcn
  obtain ⟨or, mr, xr⟩ := hcr
  obtain ⟨ov, mv, xv⟩ := hcv
  have hlr : rs.length = n := hro.len
  revert X; k_fill; intro X

  have hlf := evf.len
  have hlg := evg.len
  have hlx := evf.lenx hro
  have hly := evg.lenx hro
  have hbf := evf.bd
  have hbg := evg.bd
  refine step_S5 (h₀ := h₀) (L := L) (m := m) (news := news) (names := [Str.ofString "new"]) (cs := [(L+1+1+1+1+1+1), (L+1+1+1+1+1+1+1+1+1+1+1+1)]) (R := fun m' nw => ∃ v, m' (Str.ofString "new") = some v ∧ PolyIn nw v rg (fcs.map fun x => Int.fmod (-x) q)) ?_ ?_
  · skip
    obtain ⟨f, df, h3, k3, h4, k4, l, vs, k, cf, rfl, hp1, hp2, hp3, hi⟩ := pf
    k_steps
    exact S5.sub (by k_asm) (by k_asm) (by intro p hp; k_mem) hP1 ht1 hP2 ht2 (fun z hz => m_one hz) hG rfl ⟨_, if_pos rfl, PolyIn.mk' (by k_mem) (by k_mem) (by k_mem) (by assumption)⟩
  · skip
    intro m1 nw s1 F1 N1 hk hc t1 t2 hm1 G1 hos1 hr1
    obtain ⟨v, hv, pv⟩ := hr1
    obtain ⟨l1, vs1, k1, rfl, ml1, il1⟩ := lx.k5 hk
    obtain ⟨on, mn, xn⟩ := hc _ _ (offE 2 rfl rfl) ⟨on, mn, xn⟩
    obtain ⟨oq, mq, xq⟩ := hc _ _ (offE 1 rfl rfl) ⟨oq, mq, xq⟩
    obtain ⟨ox, mx, xx⟩ := hc _ _ (offE 10 rfl rfl) hcx
    refine wpAny_execs_cons (Assign_L5 (news := nw) (fun v => Int.fmod (0 - v) q) (by omega) ml1 il1 F1 N1 (by with_unfolding_all rfl) (by with_unfolding_all rfl) (by decide) (by rfl) (by decide) (by rfl) (by rfl) (by rfl) (by intro _; rfl) rfl ?hi ?turn ?fin)
    case hi => exact wpAny_Name (wpAny_loadName_cell (by rfl) (by rfl) (by rfl) ⟨_, (N1 _ mx).1, xx⟩ ⟨rfl, rfl⟩)
    case turn =>
      intro v9 t C oC m₂ h tk E' hk9 hC hx F' N'
      have N9 := newsTail N'
      have hnC := hC.ns (N' _ List.mem_cons_self).1
      have hv9 := evf.rng (by omega) v9 hk9
      refine wpAny_BinOp (wpAny_BinOp (wpAny_Constant_int ?_))
      refine wpAny_Name (wpAny_loadName_local (by rfl) (by rfl) hnC hx ?_)
      refine PyProof.Rows.sub_int ?_
      refine wpAny_Name (wpAny_loadName_cell (by rfl) (by rfl) (by rfl) ⟨_, (N9 _ mq).1, xq⟩ ?_)
      refine PyProof.Rows.mod_int (by omega) ?_
      exact ⟨_, _, rfl, rfl⟩
    case fin =>
      intro D h tk zs F' N' iz
      refine wpAny_execs_nil ?_
      refine S5.two hk hc t1 t2 F' N' (fun p hp => List.mem_cons_of_mem _ hp) (fun z hz => (if_neg (cont2 hz).2).trans (hm1 z (cont2 hz).1)) G1 hos1 ?_
      exact ⟨_, _, _, _, (if_neg (by decide)).trans hv, if_pos rfl, pv.mono (fun p hp => List.mem_cons_of_mem _ hp), ⟨_, _, _, rfl, List.mem_cons_self, iz⟩, ev_neg hro hq hq2 evf⟩
theorem walkOff28 : True := by
  w_top off
  trivial
set_option maxHeartbeats 4000000 in
theorem ybr4 (st : List Stmt) (hst : (loopStmt? PySem.Challenge.rw_xy0002_05.row.toRowW.prog 7 10).bind (ifBody? 4) = some st)
    (scope : Scope) (hsc : lawScope? PySem.Challenge.rw_xy0002_05.row.toRowW.prog = some scope)
    (w : World) (mean : ExcName → Option Value) (mg mb : Str → Option Value) (dp un : Nat) (gd : Option (List Code)) (a : Addr) (ccd : Value) (outer : List Env) (A₀ : Around) (base h₀ : Heap) (L : Addr) (m : Str → Option Value) (s : Shared) (E : Value → Shared → Prop) (news : Led)
    (sl rg lr lh lv : Addr) (n : Nat) (q : Int) (tn tq : Tok) (svs vsr : List Value) (sns rs : List Int) (kr : Nat)
    (B : Below A₀ base outer h₀) (hS : base.IsList sl svs.toArray) (X : (hd05.heap_39 w.params).In h₀) (T : Top topProg (looseW Mine05.view [] ++ (recsOf Mine05.view).map (·.name) ++ (litsOf Mine05.view).map (·.1) ++ (clssOf Mine05.view (looseW Mine05.view [])).map (·.name)) mean mg mb h₀) (hdp : dp + 100 < recursionLimit) (hun : un + 800 < cLine)
    (hsi : IntsAre svs sns) (hsb : ∀ x ∈ sns, Builtin.Int.intBits x ≤ 2 ^ 20) (hsl : sns.length ≤ 63)
    (hC1 : CodeHd h₀ 238 234) (hC2 : CodeHd h₀ 243 241) (ht1 : Tab 234 news) (ht2 : Tab 241 news) (hG : AllBare s.gens)
    (hcq : Cell news (L+1) (some (.int q tq))) (hcn : Cell news (L+1+1) (some (.int (n : Int) tn))) (hcr : Cell news (L+1+1+1) (some (.ref lr))) (hcv : Cell news (L+1+1+1+1) (some (.ref lv)))
    (h1n : 1 ≤ n) (hn : n ≤ 8) (hq : 2 ≤ q) (hq2 : q ≤ 256) (hro : RootsOk q n rs) (hr : RingIn news rg q n) (hmr : (lr, W.listOf vsr.toArray kr) ∈ news) (hir : IntsAre vsr rs)
    (hm_s : m (Str.ofString "script") = some (.ref sl)) (hm_r : m (Str.ofString "ring") = some (.ref rg)) (hm_h : m (Str.ofString "have") = some (.ref lh))

    (vf vg : Value) (fcs gcs xs ys : List Int) (hm_f : m (Str.ofString "f") = some vf) (hm_g : m (Str.ofString "g") = some vg) (pf : PolyIn news vf rg fcs) (pg : PolyIn news vg rg gcs) (wx wy : Value) (lx : ListIn news wx xs) (ly : ListIn news wy ys) (hcx : Cell news (L+1+1+1+1+1+1+1+1+1+1) (some wx)) (hcy : Cell news (L+1+1+1+1+1+1+1+1+1+1+1) (some wy)) (evf : Ev q n rs fcs xs) (evg : Ev q n rs gcs ys) (xm : Int) (tm : Tok) (hbm : Builtin.Int.intBits xm ≤ 2 ^ 20) (hcm : Cell news (L+1+1+1+1+1+1+1+1) (some (.int xm tm)))
    (F : Fr h₀ L s.heap m) (N : News h₀ L s.heap news) :
    wpAny (model PySem.Challenge.rw_xy0002_05.row.toRowW.prog w) (ktrTop dp un gd (Str.ofString "law") scope L a ccd [(Str.ofString "e", L + 1 + 1 + 1 + 1 + 1 + 1 + 1 + 1 + 1 + 1 + 1 + 1), (Str.ofString "y", L + 1 + 1 + 1 + 1 + 1 + 1 + 1 + 1 + 1 + 1 + 1), (Str.ofString "x", L + 1 + 1 + 1 + 1 + 1 + 1 + 1 + 1 + 1 + 1), (Str.ofString "t", L + 1 + 1 + 1 + 1 + 1 + 1 + 1 + 1 + 1), (Str.ofString "m", L + 1 + 1 + 1 + 1 + 1 + 1 + 1 + 1), (Str.ofString "a", L + 1 + 1 + 1 + 1 + 1 + 1 + 1), (Str.ofString "row", L + 1 + 1 + 1 + 1 + 1 + 1), (Str.ofString "z", L + 1 + 1 + 1 + 1 + 1), (Str.ofString "vals", L + 1 + 1 + 1 + 1), (Str.ofString "roots", L + 1 + 1 + 1), (Str.ofString "n", L + 1 + 1), (Str.ofString "q", L + 1)] outer) (execs st (envX (Str.ofString "law") scope L a ccd [(Str.ofString "e", L + 1 + 1 + 1 + 1 + 1 + 1 + 1 + 1 + 1 + 1 + 1 + 1), (Str.ofString "y", L + 1 + 1 + 1 + 1 + 1 + 1 + 1 + 1 + 1 + 1 + 1), (Str.ofString "x", L + 1 + 1 + 1 + 1 + 1 + 1 + 1 + 1 + 1 + 1), (Str.ofString "t", L + 1 + 1 + 1 + 1 + 1 + 1 + 1 + 1 + 1), (Str.ofString "m", L + 1 + 1 + 1 + 1 + 1 + 1 + 1 + 1), (Str.ofString "a", L + 1 + 1 + 1 + 1 + 1 + 1 + 1), (Str.ofString "row", L + 1 + 1 + 1 + 1 + 1 + 1), (Str.ofString "z", L + 1 + 1 + 1 + 1 + 1), (Str.ofString "vals", L + 1 + 1 + 1 + 1), (Str.ofString "roots", L + 1 + 1 + 1), (Str.ofString "n", L + 1 + 1), (Str.ofString "q", L + 1)])) (S5 h₀ L m news s [Str.ofString "new", Str.ofString "val"] [(L+1+1+1+1+1+1), (L+1+1+1+1+1+1+1+1+1+1+1+1)] (NV (Ev q n rs) rg)) E s := by
  obtain rfl : _ = st := Option.some.inj (hst : some _ = some st)
  obtain rfl : _ = scope := Option.some.inj (hsc : some _ = some scope)
  clear hst hsc
  refine RingIn.elim hr ?_
  clear hr
  intro dr h1r k1r h2r k2r tqr tnr cr hr1 hr2
  obtain ⟨ps1, hP1, ht1⟩ := ht1
  obtain ⟨ps2, hP2, ht2⟩ := ht2
  obtain ⟨oq, mq, xq⟩ := hcq
  obtain ⟨on, mn, xn⟩ := hcn
  obtain ⟨or, mr, xr⟩ := hcr
  obtain ⟨ov, mv, xv⟩ := hcv
  have hlr : rs.length = n := hro.len
  revert X; k_fill; intro X

  have hlf := evf.len
  have hlg := evg.len
  have hlx := evf.lenx hro
  have hly := evg.lenx hro
  have hbf := evf.bd
  have hbg := evg.bd
  obtain ⟨a0, fcs, rfl⟩ : ∃ a0 f0, fcs = a0 :: f0 := by
    cases fcs with
    | nil => simp at hlf; omega
    | cons a0 f0 => exact ⟨a0, f0, rfl⟩
  have hl1f : fcs.length + 1 = n := hlf
  refine step_S5 (h₀ := h₀) (L := L) (m := m) (news := news) (names := [Str.ofString "new"]) (cs := [(L+1+1+1+1+1+1), (L+1+1+1+1+1+1+1+1+1+1+1+1)]) (R := fun m' nw => ∃ v, m' (Str.ofString "new") = some v ∧ PolyIn nw v rg (Int.fmod (a0 + xm) q :: fcs)) ?_ ?_
  · skip
    obtain ⟨f, df, h3, k3, h4, k4, l, vs, k, cf, rfl, hp1, hp2, hp3, hi⟩ := pf
    obtain ⟨om, mm, xm9⟩ := hcm
    have hbx : Bd xm := Nat.le_trans hbm (by decide)
    k_steps
    exact S5.sub (by k_asm) (by k_asm) (by intro p hp; k_mem) hP1 ht1 hP2 ht2 (fun z hz => m_one hz) hG rfl ⟨_, if_pos rfl, PolyIn.mk' (by k_mem) (by k_mem) (by k_mem) (by assumption)⟩
  · skip
    intro m1 nw s1 F1 N1 hk hc t1 t2 hm1 G1 hos1 hr1
    obtain ⟨v, hv, pv⟩ := hr1
    obtain ⟨l1, vs1, k1, rfl, ml1, il1⟩ := lx.k5 hk
    obtain ⟨on, mn, xn⟩ := hc _ _ (offE 2 rfl rfl) ⟨on, mn, xn⟩
    obtain ⟨oq, mq, xq⟩ := hc _ _ (offE 1 rfl rfl) ⟨oq, mq, xq⟩
    obtain ⟨ox, mx, xx⟩ := hc _ _ (offE 10 rfl rfl) hcx
    obtain ⟨om, mm, xm9⟩ := hc _ _ (offE 8 rfl rfl) hcm
    refine wpAny_execs_cons (Assign_L5 (news := nw) (fun v => Int.fmod (v + xm) q) (by omega) ml1 il1 F1 N1 (by with_unfolding_all rfl) (by with_unfolding_all rfl) (by decide) (by rfl) (by decide) (by rfl) (by rfl) (by rfl) (by intro _; rfl) rfl ?hi ?turn ?fin)
    case hi => exact wpAny_Name (wpAny_loadName_cell (by rfl) (by rfl) (by rfl) ⟨_, (N1 _ mx).1, xx⟩ ⟨rfl, rfl⟩)
    case turn =>
      intro v9 t C oC m₂ h tk E' hk9 hC hx F' N'
      have N9 := newsTail N'
      have hnC := hC.ns (N' _ List.mem_cons_self).1
      have hv9 := evf.rng (by omega) v9 hk9
      refine wpAny_BinOp (wpAny_BinOp (wpAny_Name (wpAny_loadName_local (by rfl) (by rfl) hnC hx ?_)))
      refine wpAny_Name (wpAny_loadName_cell (by rfl) (by rfl) (by rfl) ⟨_, (N9 _ mm).1, xm9⟩ ?_)
      refine PyProof.Rows.add_int ?_
      refine wpAny_Name (wpAny_loadName_cell (by rfl) (by rfl) (by rfl) ⟨_, (N9 _ mq).1, xq⟩ ?_)
      refine PyProof.Rows.mod_int (by omega) ?_
      exact ⟨_, _, rfl, rfl⟩
    case fin =>
      intro D h tk zs F' N' iz
      refine wpAny_execs_nil ?_
      refine S5.two hk hc t1 t2 F' N' (fun p hp => List.mem_cons_of_mem _ hp) (fun z hz => (if_neg (cont2 hz).2).trans (hm1 z (cont2 hz).1)) G1 hos1 ?_
      exact ⟨_, _, _, _, (if_neg (by decide)).trans hv, if_pos rfl, pv.mono (fun p hp => List.mem_cons_of_mem _ hp), ⟨_, _, _, rfl, List.mem_cons_self, iz⟩, ev_addi hro hq hq2 xm evf⟩
theorem walkOff29 : True := by
  w_top off
  trivial
set_option maxHeartbeats 4000000 in
theorem ybr5 (st : List Stmt) (hst : (loopStmt? PySem.Challenge.rw_xy0002_05.row.toRowW.prog 7 10).bind (ifBody? 5) = some st)
    (scope : Scope) (hsc : lawScope? PySem.Challenge.rw_xy0002_05.row.toRowW.prog = some scope)
    (w : World) (mean : ExcName → Option Value) (mg mb : Str → Option Value) (dp un : Nat) (gd : Option (List Code)) (a : Addr) (ccd : Value) (outer : List Env) (A₀ : Around) (base h₀ : Heap) (L : Addr) (m : Str → Option Value) (s : Shared) (E : Value → Shared → Prop) (news : Led)
    (sl rg lr lh lv : Addr) (n : Nat) (q : Int) (tn tq : Tok) (svs vsr : List Value) (sns rs : List Int) (kr : Nat)
    (B : Below A₀ base outer h₀) (hS : base.IsList sl svs.toArray) (X : (hd05.heap_39 w.params).In h₀) (T : Top topProg (looseW Mine05.view [] ++ (recsOf Mine05.view).map (·.name) ++ (litsOf Mine05.view).map (·.1) ++ (clssOf Mine05.view (looseW Mine05.view [])).map (·.name)) mean mg mb h₀) (hdp : dp + 100 < recursionLimit) (hun : un + 800 < cLine)
    (hsi : IntsAre svs sns) (hsb : ∀ x ∈ sns, Builtin.Int.intBits x ≤ 2 ^ 20) (hsl : sns.length ≤ 63)
    (hC1 : CodeHd h₀ 238 234) (hC2 : CodeHd h₀ 243 241) (ht1 : Tab 234 news) (ht2 : Tab 241 news) (hG : AllBare s.gens)
    (hcq : Cell news (L+1) (some (.int q tq))) (hcn : Cell news (L+1+1) (some (.int (n : Int) tn))) (hcr : Cell news (L+1+1+1) (some (.ref lr))) (hcv : Cell news (L+1+1+1+1) (some (.ref lv)))
    (h1n : 1 ≤ n) (hn : n ≤ 8) (hq : 2 ≤ q) (hq2 : q ≤ 256) (hro : RootsOk q n rs) (hr : RingIn news rg q n) (hmr : (lr, W.listOf vsr.toArray kr) ∈ news) (hir : IntsAre vsr rs)
    (hm_s : m (Str.ofString "script") = some (.ref sl)) (hm_r : m (Str.ofString "ring") = some (.ref rg)) (hm_h : m (Str.ofString "have") = some (.ref lh))

    (vf vg : Value) (fcs gcs xs ys : List Int) (hm_f : m (Str.ofString "f") = some vf) (hm_g : m (Str.ofString "g") = some vg) (pf : PolyIn news vf rg fcs) (pg : PolyIn news vg rg gcs) (wx wy : Value) (lx : ListIn news wx xs) (ly : ListIn news wy ys) (hcx : Cell news (L+1+1+1+1+1+1+1+1+1+1) (some wx)) (hcy : Cell news (L+1+1+1+1+1+1+1+1+1+1+1) (some wy)) (evf : Ev q n rs fcs xs) (evg : Ev q n rs gcs ys) (xm : Int) (tm : Tok) (hbm : Builtin.Int.intBits xm ≤ 2 ^ 20) (hcm : Cell news (L+1+1+1+1+1+1+1+1) (some (.int xm tm)))
    (F : Fr h₀ L s.heap m) (N : News h₀ L s.heap news) :
    wpAny (model PySem.Challenge.rw_xy0002_05.row.toRowW.prog w) (ktrTop dp un gd (Str.ofString "law") scope L a ccd [(Str.ofString "e", L + 1 + 1 + 1 + 1 + 1 + 1 + 1 + 1 + 1 + 1 + 1 + 1), (Str.ofString "y", L + 1 + 1 + 1 + 1 + 1 + 1 + 1 + 1 + 1 + 1 + 1), (Str.ofString "x", L + 1 + 1 + 1 + 1 + 1 + 1 + 1 + 1 + 1 + 1), (Str.ofString "t", L + 1 + 1 + 1 + 1 + 1 + 1 + 1 + 1 + 1), (Str.ofString "m", L + 1 + 1 + 1 + 1 + 1 + 1 + 1 + 1), (Str.ofString "a", L + 1 + 1 + 1 + 1 + 1 + 1 + 1), (Str.ofString "row", L + 1 + 1 + 1 + 1 + 1 + 1), (Str.ofString "z", L + 1 + 1 + 1 + 1 + 1), (Str.ofString "vals", L + 1 + 1 + 1 + 1), (Str.ofString "roots", L + 1 + 1 + 1), (Str.ofString "n", L + 1 + 1), (Str.ofString "q", L + 1)] outer) (execs st (envX (Str.ofString "law") scope L a ccd [(Str.ofString "e", L + 1 + 1 + 1 + 1 + 1 + 1 + 1 + 1 + 1 + 1 + 1 + 1), (Str.ofString "y", L + 1 + 1 + 1 + 1 + 1 + 1 + 1 + 1 + 1 + 1 + 1), (Str.ofString "x", L + 1 + 1 + 1 + 1 + 1 + 1 + 1 + 1 + 1 + 1), (Str.ofString "t", L + 1 + 1 + 1 + 1 + 1 + 1 + 1 + 1 + 1), (Str.ofString "m", L + 1 + 1 + 1 + 1 + 1 + 1 + 1 + 1), (Str.ofString "a", L + 1 + 1 + 1 + 1 + 1 + 1 + 1), (Str.ofString "row", L + 1 + 1 + 1 + 1 + 1 + 1), (Str.ofString "z", L + 1 + 1 + 1 + 1 + 1), (Str.ofString "vals", L + 1 + 1 + 1 + 1), (Str.ofString "roots", L + 1 + 1 + 1), (Str.ofString "n", L + 1 + 1), (Str.ofString "q", L + 1)])) (S5 h₀ L m news s [Str.ofString "new", Str.ofString "val"] [(L+1+1+1+1+1+1), (L+1+1+1+1+1+1+1+1+1+1+1+1)] (NV (Ev q n rs) rg)) E s := by
  obtain rfl : _ = st := Option.some.inj (hst : some _ = some st)
  obtain rfl : _ = scope := Option.some.inj (hsc : some _ = some scope)
  clear hst hsc
  refine RingIn.elim hr ?_
  clear hr
  intro dr h1r k1r h2r k2r tqr tnr cr hr1 hr2
  obtain ⟨ps1, hP1, ht1⟩ := ht1
  obtain ⟨ps2, hP2, ht2⟩ := ht2
  obtain ⟨oq, mq, xq⟩ := hcq
  obtain ⟨on, mn, xn⟩ := hcn
  obtain ⟨or, mr, xr⟩ := hcr
  obtain ⟨ov, mv, xv⟩ := hcv
  have hlr : rs.length = n := hro.len
  revert X; k_fill; intro X

  have hlf := evf.len
  have hlg := evg.len
  have hlx := evf.lenx hro
  have hly := evg.lenx hro
  have hbf := evf.bd
  have hbg := evg.bd
  obtain ⟨a0, fcs, rfl⟩ : ∃ a0 f0, fcs = a0 :: f0 := by
    cases fcs with
    | nil => simp at hlf; omega
    | cons a0 f0 => exact ⟨a0, f0, rfl⟩
  have hl1f : fcs.length + 1 = n := hlf
  refine step_S5 (h₀ := h₀) (L := L) (m := m) (news := news) (names := [Str.ofString "new"]) (cs := [(L+1+1+1+1+1+1), (L+1+1+1+1+1+1+1+1+1+1+1+1)]) (R := fun m' nw => ∃ v, m' (Str.ofString "new") = some v ∧ PolyIn nw v rg ((Int.fmod (a0 - xm) q :: fcs).map fun x => Int.fmod (-x) q)) ?_ ?_
  · skip
    obtain ⟨f, df, h3, k3, h4, k4, l, vs, k, cf, rfl, hp1, hp2, hp3, hi⟩ := pf
    obtain ⟨om, mm, xm9⟩ := hcm
    have hbx : Bd xm := Nat.le_trans hbm (by decide)
    k_steps
    exact S5.sub (by k_asm) (by k_asm) (by intro p hp; k_mem) hP1 ht1 hP2 ht2 (fun z hz => m_one hz) hG rfl ⟨_, if_pos rfl, PolyIn.mk' (by k_mem) (by k_mem) (by k_mem) (by assumption)⟩
  · skip
    intro m1 nw s1 F1 N1 hk hc t1 t2 hm1 G1 hos1 hr1
    obtain ⟨v, hv, pv⟩ := hr1
    obtain ⟨l1, vs1, k1, rfl, ml1, il1⟩ := lx.k5 hk
    obtain ⟨on, mn, xn⟩ := hc _ _ (offE 2 rfl rfl) ⟨on, mn, xn⟩
    obtain ⟨oq, mq, xq⟩ := hc _ _ (offE 1 rfl rfl) ⟨oq, mq, xq⟩
    obtain ⟨ox, mx, xx⟩ := hc _ _ (offE 10 rfl rfl) hcx
    obtain ⟨om, mm, xm9⟩ := hc _ _ (offE 8 rfl rfl) hcm
    refine wpAny_execs_cons (Assign_L5 (news := nw) (fun v => Int.fmod (xm - v) q) (by omega) ml1 il1 F1 N1 (by with_unfolding_all rfl) (by with_unfolding_all rfl) (by decide) (by rfl) (by decide) (by rfl) (by rfl) (by rfl) (by intro _; rfl) rfl ?hi ?turn ?fin)
    case hi => exact wpAny_Name (wpAny_loadName_cell (by rfl) (by rfl) (by rfl) ⟨_, (N1 _ mx).1, xx⟩ ⟨rfl, rfl⟩)
    case turn =>
      intro v9 t C oC m₂ h tk E' hk9 hC hx F' N'
      have N9 := newsTail N'
      have hnC := hC.ns (N' _ List.mem_cons_self).1
      have hv9 := evf.rng (by omega) v9 hk9
      refine wpAny_BinOp (wpAny_BinOp (wpAny_Name (wpAny_loadName_cell (by rfl) (by rfl) (by rfl) ⟨_, (N9 _ mm).1, xm9⟩ ?_)))
      refine wpAny_Name (wpAny_loadName_local (by rfl) (by rfl) hnC hx ?_)
      refine PyProof.Rows.sub_int ?_
      refine wpAny_Name (wpAny_loadName_cell (by rfl) (by rfl) (by rfl) ⟨_, (N9 _ mq).1, xq⟩ ?_)
      refine PyProof.Rows.mod_int (by omega) ?_
      exact ⟨_, _, rfl, rfl⟩
    case fin =>
      intro D h tk zs F' N' iz
      refine wpAny_execs_nil ?_
      refine S5.two hk hc t1 t2 F' N' (fun p hp => List.mem_cons_of_mem _ hp) (fun z hz => (if_neg (cont2 hz).2).trans (hm1 z (cont2 hz).1)) G1 hos1 ?_
      exact ⟨_, _, _, _, (if_neg (by decide)).trans hv, if_pos rfl, pv.mono (fun p hp => List.mem_cons_of_mem _ hp), ⟨_, _, _, rfl, List.mem_cons_self, iz⟩, ev_rsub hro hq hq2 xm evf⟩
theorem walkOff30 : True := by
  w_top off
  trivial
set_option maxHeartbeats 4000000 in
theorem ybr6 (st : List Stmt) (hst : (loopStmt? PySem.Challenge.rw_xy0002_05.row.toRowW.prog 7 10).bind (ifBody? 6) = some st)
    (scope : Scope) (hsc : lawScope? PySem.Challenge.rw_xy0002_05.row.toRowW.prog = some scope)
    (w : World) (mean : ExcName → Option Value) (mg mb : Str → Option Value) (dp un : Nat) (gd : Option (List Code)) (a : Addr) (ccd : Value) (outer : List Env) (A₀ : Around) (base h₀ : Heap) (L : Addr) (m : Str → Option Value) (s : Shared) (E : Value → Shared → Prop) (news : Led)
    (sl rg lr lh lv : Addr) (n : Nat) (q : Int) (tn tq : Tok) (svs vsr : List Value) (sns rs : List Int) (kr : Nat)
    (B : Below A₀ base outer h₀) (hS : base.IsList sl svs.toArray) (X : (hd05.heap_39 w.params).In h₀) (T : Top topProg (looseW Mine05.view [] ++ (recsOf Mine05.view).map (·.name) ++ (litsOf Mine05.view).map (·.1) ++ (clssOf Mine05.view (looseW Mine05.view [])).map (·.name)) mean mg mb h₀) (hdp : dp + 100 < recursionLimit) (hun : un + 800 < cLine)
    (hsi : IntsAre svs sns) (hsb : ∀ x ∈ sns, Builtin.Int.intBits x ≤ 2 ^ 20) (hsl : sns.length ≤ 63)
    (hC1 : CodeHd h₀ 238 234) (hC2 : CodeHd h₀ 243 241) (ht1 : Tab 234 news) (ht2 : Tab 241 news) (hG : AllBare s.gens)
    (hcq : Cell news (L+1) (some (.int q tq))) (hcn : Cell news (L+1+1) (some (.int (n : Int) tn))) (hcr : Cell news (L+1+1+1) (some (.ref lr))) (hcv : Cell news (L+1+1+1+1) (some (.ref lv)))
    (h1n : 1 ≤ n) (hn : n ≤ 8) (hq : 2 ≤ q) (hq2 : q ≤ 256) (hro : RootsOk q n rs) (hr : RingIn news rg q n) (hmr : (lr, W.listOf vsr.toArray kr) ∈ news) (hir : IntsAre vsr rs)
    (hm_s : m (Str.ofString "script") = some (.ref sl)) (hm_r : m (Str.ofString "ring") = some (.ref rg)) (hm_h : m (Str.ofString "have") = some (.ref lh))

    (vf vg : Value) (fcs gcs xs ys : List Int) (hm_f : m (Str.ofString "f") = some vf) (hm_g : m (Str.ofString "g") = some vg) (pf : PolyIn news vf rg fcs) (pg : PolyIn news vg rg gcs) (wx wy : Value) (lx : ListIn news wx xs) (ly : ListIn news wy ys) (hcx : Cell news (L+1+1+1+1+1+1+1+1+1+1) (some wx)) (hcy : Cell news (L+1+1+1+1+1+1+1+1+1+1+1) (some wy)) (evf : Ev q n rs fcs xs) (evg : Ev q n rs gcs ys) (xm : Int) (tm : Tok) (hbm : Builtin.Int.intBits xm ≤ 2 ^ 20) (hcm : Cell news (L+1+1+1+1+1+1+1+1) (some (.int xm tm)))
    (F : Fr h₀ L s.heap m) (N : News h₀ L s.heap news) :
    wpAny (model PySem.Challenge.rw_xy0002_05.row.toRowW.prog w) (ktrTop dp un gd (Str.ofString "law") scope L a ccd [(Str.ofString "e", L + 1 + 1 + 1 + 1 + 1 + 1 + 1 + 1 + 1 + 1 + 1 + 1), (Str.ofString "y", L + 1 + 1 + 1 + 1 + 1 + 1 + 1 + 1 + 1 + 1 + 1), (Str.ofString "x", L + 1 + 1 + 1 + 1 + 1 + 1 + 1 + 1 + 1 + 1), (Str.ofString "t", L + 1 + 1 + 1 + 1 + 1 + 1 + 1 + 1 + 1), (Str.ofString "m", L + 1 + 1 + 1 + 1 + 1 + 1 + 1 + 1), (Str.ofString "a", L + 1 + 1 + 1 + 1 + 1 + 1 + 1), (Str.ofString "row", L + 1 + 1 + 1 + 1 + 1 + 1), (Str.ofString "z", L + 1 + 1 + 1 + 1 + 1), (Str.ofString "vals", L + 1 + 1 + 1 + 1), (Str.ofString "roots", L + 1 + 1 + 1), (Str.ofString "n", L + 1 + 1), (Str.ofString "q", L + 1)] outer) (execs st (envX (Str.ofString "law") scope L a ccd [(Str.ofString "e", L + 1 + 1 + 1 + 1 + 1 + 1 + 1 + 1 + 1 + 1 + 1 + 1), (Str.ofString "y", L + 1 + 1 + 1 + 1 + 1 + 1 + 1 + 1 + 1 + 1 + 1), (Str.ofString "x", L + 1 + 1 + 1 + 1 + 1 + 1 + 1 + 1 + 1 + 1), (Str.ofString "t", L + 1 + 1 + 1 + 1 + 1 + 1 + 1 + 1 + 1), (Str.ofString "m", L + 1 + 1 + 1 + 1 + 1 + 1 + 1 + 1), (Str.ofString "a", L + 1 + 1 + 1 + 1 + 1 + 1 + 1), (Str.ofString "row", L + 1 + 1 + 1 + 1 + 1 + 1), (Str.ofString "z", L + 1 + 1 + 1 + 1 + 1), (Str.ofString "vals", L + 1 + 1 + 1 + 1), (Str.ofString "roots", L + 1 + 1 + 1), (Str.ofString "n", L + 1 + 1), (Str.ofString "q", L + 1)])) (S5 h₀ L m news s [Str.ofString "new", Str.ofString "val"] [(L+1+1+1+1+1+1), (L+1+1+1+1+1+1+1+1+1+1+1+1)] (NV (Ev q n rs) rg)) E s := by
  obtain rfl : _ = st := Option.some.inj (hst : some _ = some st)
  obtain rfl : _ = scope := Option.some.inj (hsc : some _ = some scope)
  clear hst hsc
  refine RingIn.elim hr ?_
  clear hr
  intro dr h1r k1r h2r k2r tqr tnr cr hr1 hr2
  obtain ⟨ps1, hP1, ht1⟩ := ht1
  obtain ⟨ps2, hP2, ht2⟩ := ht2
  obtain ⟨oq, mq, xq⟩ := hcq
  obtain ⟨on, mn, xn⟩ := hcn
  obtain ⟨or, mr, xr⟩ := hcr
  obtain ⟨ov, mv, xv⟩ := hcv
  have hlr : rs.length = n := hro.len
  revert X; k_fill; intro X

  have hlf := evf.len
  have hlg := evg.len
  have hlx := evf.lenx hro
  have hly := evg.lenx hro
  have hbf := evf.bd
  have hbg := evg.bd
  refine step_S5 (h₀ := h₀) (L := L) (m := m) (news := news) (names := [Str.ofString "new"]) (cs := [(L+1+1+1+1+1+1), (L+1+1+1+1+1+1+1+1+1+1+1+1)]) (R := fun m' nw => ∃ v, m' (Str.ofString "new") = some v ∧ PolyIn nw v rg (fcs.map fun x => Int.fmod (x * xm) q)) ?_ ?_
  · skip
    obtain ⟨f, df, h3, k3, h4, k4, l, vs, k, cf, rfl, hp1, hp2, hp3, hi⟩ := pf
    obtain ⟨om, mm, xm9⟩ := hcm
    have hbx : Bd xm := Nat.le_trans hbm (by decide)
    k_steps
    exact S5.sub (by k_asm) (by k_asm) (by intro p hp; k_mem) hP1 ht1 hP2 ht2 (fun z hz => m_one hz) hG rfl ⟨_, if_pos rfl, PolyIn.mk' (by k_mem) (by k_mem) (by k_mem) (by assumption)⟩
  · skip
    intro m1 nw s1 F1 N1 hk hc t1 t2 hm1 G1 hos1 hr1
    obtain ⟨v, hv, pv⟩ := hr1
    obtain ⟨l1, vs1, k1, rfl, ml1, il1⟩ := lx.k5 hk
    obtain ⟨on, mn, xn⟩ := hc _ _ (offE 2 rfl rfl) ⟨on, mn, xn⟩
    obtain ⟨oq, mq, xq⟩ := hc _ _ (offE 1 rfl rfl) ⟨oq, mq, xq⟩
    obtain ⟨ox, mx, xx⟩ := hc _ _ (offE 10 rfl rfl) hcx
    have hbx : Bd xm := Nat.le_trans hbm (by decide)
    obtain ⟨om, mm, xm9⟩ := hc _ _ (offE 8 rfl rfl) hcm
    refine wpAny_execs_cons (Assign_L5 (news := nw) (fun v => Int.fmod (v * xm) q) (by omega) ml1 il1 F1 N1 (by with_unfolding_all rfl) (by with_unfolding_all rfl) (by decide) (by rfl) (by decide) (by rfl) (by rfl) (by rfl) (by intro _; rfl) rfl ?hi ?turn ?fin)
    case hi => exact wpAny_Name (wpAny_loadName_cell (by rfl) (by rfl) (by rfl) ⟨_, (N1 _ mx).1, xx⟩ ⟨rfl, rfl⟩)
    case turn =>
      intro v9 t C oC m₂ h tk E' hk9 hC hx F' N'
      have N9 := newsTail N'
      have hnC := hC.ns (N' _ List.mem_cons_self).1
      have hv9 := evf.rng (by omega) v9 hk9
      refine wpAny_BinOp (wpAny_BinOp (wpAny_Name (wpAny_loadName_local (by rfl) (by rfl) hnC hx ?_)))
      refine wpAny_Name (wpAny_loadName_cell (by rfl) (by rfl) (by rfl) ⟨_, (N9 _ mm).1, xm9⟩ ?_)
      refine PyProof.Rows.mul_int ?_ (mulOk_bd (bd_small (by omega) (by omega)) hbx)
      refine wpAny_Name (wpAny_loadName_cell (by rfl) (by rfl) (by rfl) ⟨_, (N9 _ mq).1, xq⟩ ?_)
      refine PyProof.Rows.mod_int (by omega) ?_
      exact ⟨_, _, rfl, rfl⟩
    case fin =>
      intro D h tk zs F' N' iz
      refine wpAny_execs_nil ?_
      refine S5.two hk hc t1 t2 F' N' (fun p hp => List.mem_cons_of_mem _ hp) (fun z hz => (if_neg (cont2 hz).2).trans (hm1 z (cont2 hz).1)) G1 hos1 ?_
      exact ⟨_, _, _, _, (if_neg (by decide)).trans hv, if_pos rfl, pv.mono (fun p hp => List.mem_cons_of_mem _ hp), ⟨_, _, _, rfl, List.mem_cons_self, iz⟩, ev_muli hro hq hq2 xm evf⟩
theorem walkOff31 : True := by
  w_top off
  trivial
set_option maxHeartbeats 4000000 in
theorem ybr11 (st : List Stmt) (hst : (loopStmt? PySem.Challenge.rw_xy0002_05.row.toRowW.prog 7 10).bind (ifElse? 10) = some st)
    (scope : Scope) (hsc : lawScope? PySem.Challenge.rw_xy0002_05.row.toRowW.prog = some scope)
    (w : World) (mean : ExcName → Option Value) (mg mb : Str → Option Value) (dp un : Nat) (gd : Option (List Code)) (a : Addr) (ccd : Value) (outer : List Env) (A₀ : Around) (base h₀ : Heap) (L : Addr) (m : Str → Option Value) (s : Shared) (E : Value → Shared → Prop) (news : Led)
    (sl rg lr lh lv : Addr) (n : Nat) (q : Int) (tn tq : Tok) (svs vsr : List Value) (sns rs : List Int) (kr : Nat)
    (B : Below A₀ base outer h₀) (hS : base.IsList sl svs.toArray) (X : (hd05.heap_39 w.params).In h₀) (T : Top topProg (looseW Mine05.view [] ++ (recsOf Mine05.view).map (·.name) ++ (litsOf Mine05.view).map (·.1) ++ (clssOf Mine05.view (looseW Mine05.view [])).map (·.name)) mean mg mb h₀) (hdp : dp + 100 < recursionLimit) (hun : un + 800 < cLine)
    (hsi : IntsAre svs sns) (hsb : ∀ x ∈ sns, Builtin.Int.intBits x ≤ 2 ^ 20) (hsl : sns.length ≤ 63)
    (hC1 : CodeHd h₀ 238 234) (hC2 : CodeHd h₀ 243 241) (ht1 : Tab 234 news) (ht2 : Tab 241 news) (hG : AllBare s.gens)
    (hcq : Cell news (L+1) (some (.int q tq))) (hcn : Cell news (L+1+1) (some (.int (n : Int) tn))) (hcr : Cell news (L+1+1+1) (some (.ref lr))) (hcv : Cell news (L+1+1+1+1) (some (.ref lv)))
    (h1n : 1 ≤ n) (hn : n ≤ 8) (hq : 2 ≤ q) (hq2 : q ≤ 256) (hro : RootsOk q n rs) (hr : RingIn news rg q n) (hmr : (lr, W.listOf vsr.toArray kr) ∈ news) (hir : IntsAre vsr rs)
    (hm_s : m (Str.ofString "script") = some (.ref sl)) (hm_r : m (Str.ofString "ring") = some (.ref rg)) (hm_h : m (Str.ofString "have") = some (.ref lh))

    (vf vg : Value) (fcs gcs xs ys : List Int) (hm_f : m (Str.ofString "f") = some vf) (hm_g : m (Str.ofString "g") = some vg) (pf : PolyIn news vf rg fcs) (pg : PolyIn news vg rg gcs) (wx wy : Value) (lx : ListIn news wx xs) (ly : ListIn news wy ys) (hcx : Cell news (L+1+1+1+1+1+1+1+1+1+1) (some wx)) (hcy : Cell news (L+1+1+1+1+1+1+1+1+1+1+1) (some wy)) (evf : Ev q n rs fcs xs) (evg : Ev q n rs gcs ys) (xm : Int) (tm : Tok) (hbm : Builtin.Int.intBits xm ≤ 2 ^ 20) (hcm : Cell news (L+1+1+1+1+1+1+1+1) (some (.int xm tm))) (k3 : Nat) (t3 : Tok) (hk3 : k3 < 3) (hct : Cell news (L+1+1+1+1+1+1+1+1+1) (some (.int (k3 : Int) t3))) (hvs wvs : List Value) (kh kv : Nat) (mh : (lh, W.listOf hvs.toArray kh) ∈ news) (mv9 : (lv, W.listOf wvs.toArray kv) ∈ news) (vt wt : Value) (tcs ts : List Int) (hvt : hvs[k3]? = some vt) (hwt : wvs[k3]? = some wt) (pt : PolyIn news vt rg tcs) (lt : ListIn news wt ts) (evt : Ev q n rs tcs ts)
    (F : Fr h₀ L s.heap m) (N : News h₀ L s.heap news) :
    wpAny (model PySem.Challenge.rw_xy0002_05.row.toRowW.prog w) (ktrTop dp un gd (Str.ofString "law") scope L a ccd [(Str.ofString "e", L + 1 + 1 + 1 + 1 + 1 + 1 + 1 + 1 + 1 + 1 + 1 + 1), (Str.ofString "y", L + 1 + 1 + 1 + 1 + 1 + 1 + 1 + 1 + 1 + 1 + 1), (Str.ofString "x", L + 1 + 1 + 1 + 1 + 1 + 1 + 1 + 1 + 1 + 1), (Str.ofString "t", L + 1 + 1 + 1 + 1 + 1 + 1 + 1 + 1 + 1), (Str.ofString "m", L + 1 + 1 + 1 + 1 + 1 + 1 + 1 + 1), (Str.ofString "a", L + 1 + 1 + 1 + 1 + 1 + 1 + 1), (Str.ofString "row", L + 1 + 1 + 1 + 1 + 1 + 1), (Str.ofString "z", L + 1 + 1 + 1 + 1 + 1), (Str.ofString "vals", L + 1 + 1 + 1 + 1), (Str.ofString "roots", L + 1 + 1 + 1), (Str.ofString "n", L + 1 + 1), (Str.ofString "q", L + 1)] outer) (execs st (envX (Str.ofString "law") scope L a ccd [(Str.ofString "e", L + 1 + 1 + 1 + 1 + 1 + 1 + 1 + 1 + 1 + 1 + 1 + 1), (Str.ofString "y", L + 1 + 1 + 1 + 1 + 1 + 1 + 1 + 1 + 1 + 1 + 1), (Str.ofString "x", L + 1 + 1 + 1 + 1 + 1 + 1 + 1 + 1 + 1 + 1), (Str.ofString "t", L + 1 + 1 + 1 + 1 + 1 + 1 + 1 + 1 + 1), (Str.ofString "m", L + 1 + 1 + 1 + 1 + 1 + 1 + 1 + 1), (Str.ofString "a", L + 1 + 1 + 1 + 1 + 1 + 1 + 1), (Str.ofString "row", L + 1 + 1 + 1 + 1 + 1 + 1), (Str.ofString "z", L + 1 + 1 + 1 + 1 + 1), (Str.ofString "vals", L + 1 + 1 + 1 + 1), (Str.ofString "roots", L + 1 + 1 + 1), (Str.ofString "n", L + 1 + 1), (Str.ofString "q", L + 1)])) (S5 h₀ L m news s [Str.ofString "new", Str.ofString "val"] [(L+1+1+1+1+1+1), (L+1+1+1+1+1+1+1+1+1+1+1+1)] (NV (Ev q n rs) rg)) E s := by
  obtain rfl : _ = st := Option.some.inj (hst : some _ = some st)
  obtain rfl : _ = scope := Option.some.inj (hsc : some _ = some scope)
  clear hst hsc
  refine RingIn.elim hr ?_
  clear hr
  intro dr h1r k1r h2r k2r tqr tnr cr hr1 hr2
  obtain ⟨ps1, hP1, ht1⟩ := ht1
  obtain ⟨ps2, hP2, ht2⟩ := ht2
  obtain ⟨oq, mq, xq⟩ := hcq
  obtain ⟨on, mn, xn⟩ := hcn
  obtain ⟨or, mr, xr⟩ := hcr
  obtain ⟨ov, mv, xv⟩ := hcv
  have hlr : rs.length = n := hro.len
  revert X; k_fill; intro X

  have hlf := evf.len
  have hlg := evg.len
  have hlx := evf.lenx hro
  have hly := evg.lenx hro
  have hbf := evf.bd
  have hbg := evg.bd
  obtain ⟨a0, fcs, rfl⟩ : ∃ a0 f0, fcs = a0 :: f0 := by
    cases fcs with
    | nil => simp at hlf; omega
    | cons a0 f0 => exact ⟨a0, f0, rfl⟩
  have hl1f : fcs.length + 1 = n := hlf
  refine step_S5 (h₀ := h₀) (L := L) (m := m) (news := news) (names := [Str.ofString "new"]) (cs := [(L+1+1+1+1+1+1), (L+1+1+1+1+1+1+1+1+1+1+1+1)]) (R := fun m' nw => ∃ v, m' (Str.ofString "new") = some v ∧ PolyIn nw v rg (List.zipWith (fun x y => Int.fmod (x + y) q) (List.zipWith (fun x y => Int.fmod (x + y) q) (Int.fmod (a0 + 0) q :: fcs) gcs) tcs)) ?_ ?_
  · obtain ⟨ot, mt, xt⟩ := hct
    have hvf : ∃ a, vf = .ref a := by obtain ⟨f, df, h3, k3, h4, k4, l, vs, k, cf, e, _⟩ := pf; exact ⟨f, e⟩
    have hvg : ∃ a, vg = .ref a := by obtain ⟨f, df, h3, k3, h4, k4, l, vs, k, cf, e, _⟩ := pg; exact ⟨f, e⟩
    have hvt' : ∃ a, vt = .ref a := by obtain ⟨f, df, h3, k3, h4, k4, l, vs, k, cf, e, _⟩ := pt; exact ⟨f, e⟩
    refine wpAny_Assign_Name (Call_ (Name_function_global (by rfl) (by rfl) (loadGlobal_builtin (show Heap.Ns _ mainGlobals mg from T.g.keeps F.keep) (mg_none_of X T.g (by k_is)) (T.b.keeps F.keep) ((T.builtins "sum" (by decide)).trans PyProof.Rows.boot_sum) ?_))) (by with_unfolding_all rfl)
    refine callWith_builtin1 (he := rfl) (hplain := rfl) (args_cons ?_)
    rw [arm_eval_List]
    refine wpAny_bind (wpAny_standAt (wpAny_bind ?_))
    refine args_cons (wpAny_Name (loadName_L F hm_f ?_ rfl rfl))
    refine args_cons (wpAny_Name (loadName_L F hm_g ?_ rfl rfl))
    refine args_cons (Subscript_ (wpAny_Name (loadName_L F hm_h (wpAny_Name (wpAny_loadName_cell (by rfl) (by rfl) (by rfl) ⟨_, (N _ mt).1, xt⟩ (item_L N mh hvt (by omega) (args_nil ?_)))) rfl rfl)))
    refine wpAny_newList ?_
    refine args_nil ?_
    have PN := push_fn F N (o := { cls := .type "list", data := .seq ([vf, vg, vt] : List Value).toArray }) rfl
    obtain ⟨F9, N9⟩ := PN
    (try dsimp only)
    generalize s.heap.push _ = H9 at F9 N9 ⊢
    generalize s.heap.objs.size = l9 at N9 ⊢
    have hrr := RingIn.mk' hr1 hr2
    refine sum_objs (its := [vf, vg, vt]) (k := 0) (news := (l9, W.listOf ([vf, vg, vt] : List Value).toArray 0) :: news) (Acc := Acc3 ((l9, W.listOf ([vf, vg, vt] : List Value).toArray 0) :: news) rg (Int.fmod (a0 + 0) q :: fcs) (List.zipWith (fun x y => Int.fmod (x + y) q) (Int.fmod (a0 + 0) q :: fcs) gcs) (List.zipWith (fun x y => Int.fmod (x + y) q) (List.zipWith (fun x y => Int.fmod (x + y) q) (Int.fmod (a0 + 0) q :: fcs) gcs) tcs)) rfl F9 N9 List.mem_cons_self ?refs hG (fun t => .z t _ fun _ h => h) ?step ?fin
    case refs =>
      intro v hv
      simp only [List.mem_cons, List.not_mem_nil, or_false] at hv
      rcases hv with rfl | rfl | rfl <;> assumption
    case step =>
      intro i v acc I oI S oS nw s' E' hv hA hm hcI hcS F' N' off G' hos
      obtain ⟨c9, hcS⟩ := hcS
      have hup : ∀ {nw0 : Led}, Sub nw0 nw → Sub nw0 ((I, oI) :: (S, oS) :: nw) := fun h p hp => List.mem_cons_of_mem _ (List.mem_cons_of_mem _ (h p hp))
      cases hA with
      | z t _ hs =>
        obtain rfl : vf = v := Option.some.inj hv
        have hs0 : Sub news nw := fun p hp => hs p (List.mem_cons_of_mem _ hp)
        refine wpAny_mono (ysum0 _ rfl w mean mg mb dp (un + 1) gd a ccd outer A₀ base h₀ L m s' E' _ rg n q B X T (by omega) (by omega) h1n hn hq hq2 (hrr.mono (hup hs0)) t vf a0 fcs hl1f (pf.mono (hup hs0)) F' N') (fun r s2 h2 => ?_) fun _ _ e => e
        obtain ⟨h2, tk2, nw2, rfl, F2, N2, S2, f, d, h1', k1', h2', k2', l, vs, k, c, rfl, m1, m2, m3, i3, n3, n4⟩ := h2
        have hup2 : Sub nw (offP I (offP S nw2)) := fun p hp => mem2 (S2 _ (List.mem_cons_of_mem _ (List.mem_cons_of_mem _ hp))) (off p hp).1 (off p hp).2
        exact SEnd.mk _ nw2 F2 N2 (S2 _ List.mem_cons_self) (S2 _ (List.mem_cons_of_mem _ List.mem_cons_self)) of_mem2 off_mem2 G' hos ⟨hup2 _ hm, ⟨f, rfl⟩, .a _ _ (fun p hp => hup2 _ (hs p hp)) (poly_off N2 (S2 _ List.mem_cons_self) (S2 _ (List.mem_cons_of_mem _ List.mem_cons_self)) hcI hcS m1 m2 m3 i3 (Ne.symm (n4 _ (List.mem_cons_of_mem _ List.mem_cons_self))))⟩
      | a _ _ hs pa =>
        obtain rfl : vg = v := Option.some.inj hv
        have hs0 : Sub news nw := fun p hp => hs p (List.mem_cons_of_mem _ hp)
        have hra : ∃ a9, acc = .ref a9 := by obtain ⟨f, df, h3, k3, h4, k4, l, vs, k, cf, e, _⟩ := pa; exact ⟨f, e⟩
        obtain ⟨a9, rfl⟩ := hra
        refine wpAny_mono (ysum1 _ rfl w mean mg mb dp (un + 1) gd a ccd outer A₀ base h₀ L m s' E' _ rg n q B X T (by omega) (by omega) h1n hn hq hq2 (hrr.mono (hup hs0)) (.ref a9) vg _ gcs (by simp; omega) hlg (pa.mono (hup fun _ h => h)) (pg.mono (hup hs0)) F' N') (fun r s2 h2 => ?_) fun _ _ e => e
        obtain ⟨h2, tk2, nw2, rfl, F2, N2, S2, f, d, h1', k1', h2', k2', l, vs, k, c, rfl, m1, m2, m3, i3⟩ := h2
        have hup2 : Sub nw (offP I (offP S nw2)) := fun p hp => mem2 (S2 _ (List.mem_cons_of_mem _ (List.mem_cons_of_mem _ hp))) (off p hp).1 (off p hp).2
        exact SEnd.mk _ nw2 F2 N2 (S2 _ List.mem_cons_self) (S2 _ (List.mem_cons_of_mem _ List.mem_cons_self)) of_mem2 off_mem2 G' hos ⟨hup2 _ hm, ⟨f, rfl⟩, .b _ _ (fun p hp => hup2 _ (hs p hp)) (poly_off N2 (S2 _ List.mem_cons_self) (S2 _ (List.mem_cons_of_mem _ List.mem_cons_self)) hcI hcS m1 m2 m3 i3 (list_off N2 (S2 _ (List.mem_cons_of_mem _ List.mem_cons_self)) hcS m3 i3))⟩
      | b _ _ hs pa =>
        obtain rfl : vt = v := Option.some.inj hv
        have hs0 : Sub news nw := fun p hp => hs p (List.mem_cons_of_mem _ hp)
        have hra : ∃ a9, acc = .ref a9 := by obtain ⟨f, df, h3, k3, h4, k4, l, vs, k, cf, e, _⟩ := pa; exact ⟨f, e⟩
        obtain ⟨a9, rfl⟩ := hra
        refine wpAny_mono (ysum1 _ rfl w mean mg mb dp (un + 1) gd a ccd outer A₀ base h₀ L m s' E' _ rg n q B X T (by omega) (by omega) h1n hn hq hq2 (hrr.mono (hup hs0)) (.ref a9) vt _ tcs (by simp; omega) evt.len (pa.mono (hup fun _ h => h)) (pt.mono (hup hs0)) F' N') (fun r s2 h2 => ?_) fun _ _ e => e
        obtain ⟨h2, tk2, nw2, rfl, F2, N2, S2, f, d, h1', k1', h2', k2', l, vs, k, c, rfl, m1, m2, m3, i3⟩ := h2
        have hup2 : Sub nw (offP I (offP S nw2)) := fun p hp => mem2 (S2 _ (List.mem_cons_of_mem _ (List.mem_cons_of_mem _ hp))) (off p hp).1 (off p hp).2
        exact SEnd.mk _ nw2 F2 N2 (S2 _ List.mem_cons_self) (S2 _ (List.mem_cons_of_mem _ List.mem_cons_self)) of_mem2 off_mem2 G' hos ⟨hup2 _ hm, ⟨f, rfl⟩, .c _ _ (fun p hp => hup2 _ (hs p hp)) (poly_off N2 (S2 _ List.mem_cons_self) (S2 _ (List.mem_cons_of_mem _ List.mem_cons_self)) hcI hcS m1 m2 m3 i3 (list_off N2 (S2 _ (List.mem_cons_of_mem _ List.mem_cons_self)) hcS m3 i3))⟩
      | c _ _ hs pa => cases hv
    case fin =>
      intro r nw s' hA F' N' G' hos
      cases hA with
      | c _ _ hs pa =>
        k_steps
        exact S5.sub (by k_asm) (by k_asm) (fun p hp => hs p (List.mem_cons_of_mem _ hp)) hP1 ht1 hP2 ht2 (fun z hz => m_one hz) G' hos ⟨_, if_pos rfl, pa⟩
  · skip
    intro m1 nw s1 F1 N1 hk hc t1 t2 hm1 G1 hos1 hr1
    obtain ⟨v, hv, pv⟩ := hr1
    obtain ⟨l1, vs1, k1, rfl, ml1, il1⟩ := lx.k5 hk
    obtain ⟨on, mn, xn⟩ := hc _ _ (offE 2 rfl rfl) ⟨on, mn, xn⟩
    obtain ⟨oq, mq, xq⟩ := hc _ _ (offE 1 rfl rfl) ⟨oq, mq, xq⟩
    obtain ⟨ox, mx, xx⟩ := hc _ _ (offE 10 rfl rfl) hcx
    obtain ⟨l2, vs2, k2, rfl, ml2, il2⟩ := ly.k5 hk
    obtain ⟨oy, my, xy⟩ := hc _ _ (offE 11 rfl rfl) hcy
    obtain ⟨ot, mt, xt⟩ := hc _ _ (offE 9 rfl rfl) hct
    obtain ⟨ov, mv, xv⟩ := hc _ _ (offE 4 rfl rfl) ⟨ov, mv, xv⟩
    obtain ⟨l3, vs3, k3', rfl, ml3, il3⟩ := lt.k5 hk
    have mv9 := hk.list mv9
    refine wpAny_execs_cons (Assign_R5 (news := nw) n (fun s => Int.fmod (xs.getD s 0 + ys.getD s 0 + ts.getD s 0) q) (by omega) F1 (by with_unfolding_all rfl) (by with_unfolding_all rfl) (by decide) (by rfl) (by decide) (by rfl) (by rfl) (by rfl) (by intro _; rfl) rfl ?hi ?turn ?fin)
    case hi =>
      refine Call_ (Name_function_global (by rfl) (by rfl) (loadGlobal_builtin (show Heap.Ns _ mainGlobals mg from T.g.keeps F1.keep) (mg_none_of X T.g (by k_is)) (T.b.keeps F1.keep) ((T.builtins "range" (by decide)).trans PyProof.Rows.boot_range) ?_))
      refine PyProof.Rows.callWith_type1 (args_cons (wpAny_Name (wpAny_loadName_cell (by rfl) (by rfl) (by rfl) ⟨_, (N1 _ mn).1, xn⟩ (args_nil ?_))))
      exact range1_rows F1 N1 fun h1 tk1 t1 u1 v1 hr1 Fr1 Nr1 kr1 => ⟨_, _, _, _, _, _, rfl, rfl, Fr1, Nr1, hr1⟩
    case turn =>
      intro i t C oC m₂ h tk E' hi hC hx F' N'
      have N9 := newsTail N'
      have hnC := hC.ns (N' _ List.mem_cons_self).1
      obtain ⟨tha, ha⟩ := ints_getD il1 (i := i) (by omega)
      refine wpAny_BinOp (wpAny_BinOp (wpAny_BinOp (Subscript_ (wpAny_Name (wpAny_loadName_cell (by rfl) (by rfl) (by rfl) ⟨_, (N9 _ mx).1, xx⟩ (wpAny_Name (wpAny_loadName_local (by rfl) (by rfl) hnC hx ?_)))))))
      refine item_L N9 ml1 ha (by omega) ?_
      obtain ⟨thb, hb⟩ := ints_getD il2 (i := i) (by omega)
      refine Subscript_ (wpAny_Name (wpAny_loadName_cell (by rfl) (by rfl) (by rfl) ⟨_, (N9 _ my).1, xy⟩ (wpAny_Name (wpAny_loadName_local (by rfl) (by rfl) hnC hx ?_))))
      refine item_L N9 ml2 hb (by omega) ?_
      refine PyProof.Rows.add_int ?_
      obtain ⟨tc9, hc9⟩ := ints_getD il3 (i := i) (by have := evt.lenx hro; omega)
      refine Subscript_ (Subscript_ (wpAny_Name (wpAny_loadName_cell (by rfl) (by rfl) (by rfl) ⟨_, (N9 _ mv).1, xv⟩ (wpAny_Name (wpAny_loadName_cell (by rfl) (by rfl) (by rfl) ⟨_, (N9 _ mt).1, xt⟩ (item_L N9 mv9 hwt (by omega) ?_))))))
      refine wpAny_Name (wpAny_loadName_local (by rfl) (by rfl) hnC hx ?_)
      refine item_L N9 ml3 hc9 (by omega) ?_
      refine PyProof.Rows.add_int ?_
      refine wpAny_Name (wpAny_loadName_cell (by rfl) (by rfl) (by rfl) ⟨_, (N9 _ mq).1, xq⟩ ?_)
      refine PyProof.Rows.mod_int (by omega) ?_
      exact ⟨_, _, rfl, rfl⟩
    case fin =>
      intro D h tk zs F' N' iz
      refine wpAny_execs_nil ?_
      refine S5.two hk hc t1 t2 F' N' (fun p hp => List.mem_cons_of_mem _ hp) (fun z hz => (if_neg (cont2 hz).2).trans (hm1 z (cont2 hz).1)) G1 hos1 ?_
      exact ⟨_, _, _, _, (if_neg (by decide)).trans hv, if_pos rfl, pv.mono (fun p hp => List.mem_cons_of_mem _ hp), ⟨_, _, _, rfl, List.mem_cons_self, iz⟩, ev_sum3 hro hq hq2 evf evg evt⟩
section
local macro_rules | `(tactic| walk_at "storeName") => `(tactic| (k_here; (with_reducible show wpAny _ _ (storeName _ _ _) _ _ _); (try dsimp only); refine' storeC ?zxF ?zxN ?zxc ?zxm ?zxd ?_ ?zxa ?zxb; (case zxa => rfl); (case zxb => rfl); (case zxc => rfl); (case zxF | zxN => k_asm); (case zxm => k_mem); (case zxd => assumption); intro h' o' F' N' d'; (try dsimp only at N')))
theorem walkOff32 : True := by
  w_top off
  trivial
set_option maxHeartbeats 4000000 in
theorem ybl2 (st : Stmt) (hst : loopStmt? PySem.Challenge.rw_xy0002_05.row.toRowW.prog 7 1 = some st)
    (scope : Scope) (hsc : lawScope? PySem.Challenge.rw_xy0002_05.row.toRowW.prog = some scope)
    (w : World) (mean : ExcName → Option Value) (mg mb : Str → Option Value) (dp un : Nat) (gd : Option (List Code)) (a : Addr) (ccd : Value) (outer : List Env) (A₀ : Around) (base h₀ : Heap) (L : Addr) (m : Str → Option Value) (s : Shared) (E : Value → Shared → Prop) (news : Led)
    (sl rg lr lh lv : Addr) (n : Nat) (q : Int) (tn tq : Tok) (svs vsr : List Value) (sns rs : List Int) (kr : Nat)
    (B : Below A₀ base outer h₀) (hS : base.IsList sl svs.toArray) (X : (hd05.heap_39 w.params).In h₀) (T : Top topProg (looseW Mine05.view [] ++ (recsOf Mine05.view).map (·.name) ++ (litsOf Mine05.view).map (·.1) ++ (clssOf Mine05.view (looseW Mine05.view [])).map (·.name)) mean mg mb h₀) (hdp : dp + 100 < recursionLimit) (hun : un + 800 < cLine)
    (hsi : IntsAre svs sns) (hsb : ∀ x ∈ sns, Builtin.Int.intBits x ≤ 2 ^ 20) (hsl : sns.length ≤ 63)
    (hC1 : CodeHd h₀ 238 234) (hC2 : CodeHd h₀ 243 241) (ht1 : Tab 234 news) (ht2 : Tab 241 news) (hG : AllBare s.gens)
    (hcq : Cell news (L+1) (some (.int q tq))) (hcn : Cell news (L+1+1) (some (.int (n : Int) tn))) (hcr : Cell news (L+1+1+1) (some (.ref lr))) (hcv : Cell news (L+1+1+1+1) (some (.ref lv)))
    (h1n : 1 ≤ n) (hn : n ≤ 8) (hq : 2 ≤ q) (hq2 : q ≤ 256) (hro : RootsOk q n rs) (hr : RingIn news rg q n) (hmr : (lr, W.listOf vsr.toArray kr) ∈ news) (hir : IntsAre vsr rs)
    (hm_s : m (Str.ofString "script") = some (.ref sl)) (hm_r : m (Str.ofString "ring") = some (.ref rg)) (hm_h : m (Str.ofString "have") = some (.ref lh))

    (i : Nat) (ti : Tok) (hi27 : i < 27) (hm_i : m (Str.ofString "r") = some (.int (i : Int) ti)) (v0 : Option Value) (hca : Cell news (L+1+1+1+1+1+1+1) v0)
    (F : Fr h₀ L s.heap m) (N : News h₀ L s.heap news) :
    wpAny (model PySem.Challenge.rw_xy0002_05.row.toRowW.prog w) (ktrTop dp un gd (Str.ofString "law") scope L a ccd [(Str.ofString "e", L + 1 + 1 + 1 + 1 + 1 + 1 + 1 + 1 + 1 + 1 + 1 + 1), (Str.ofString "y", L + 1 + 1 + 1 + 1 + 1 + 1 + 1 + 1 + 1 + 1 + 1), (Str.ofString "x", L + 1 + 1 + 1 + 1 + 1 + 1 + 1 + 1 + 1 + 1), (Str.ofString "t", L + 1 + 1 + 1 + 1 + 1 + 1 + 1 + 1 + 1), (Str.ofString "m", L + 1 + 1 + 1 + 1 + 1 + 1 + 1 + 1), (Str.ofString "a", L + 1 + 1 + 1 + 1 + 1 + 1 + 1), (Str.ofString "row", L + 1 + 1 + 1 + 1 + 1 + 1), (Str.ofString "z", L + 1 + 1 + 1 + 1 + 1), (Str.ofString "vals", L + 1 + 1 + 1 + 1), (Str.ofString "roots", L + 1 + 1 + 1), (Str.ofString "n", L + 1 + 1), (Str.ofString "q", L + 1)] outer) (exec st (envX (Str.ofString "law") scope L a ccd [(Str.ofString "e", L + 1 + 1 + 1 + 1 + 1 + 1 + 1 + 1 + 1 + 1 + 1 + 1), (Str.ofString "y", L + 1 + 1 + 1 + 1 + 1 + 1 + 1 + 1 + 1 + 1 + 1), (Str.ofString "x", L + 1 + 1 + 1 + 1 + 1 + 1 + 1 + 1 + 1 + 1), (Str.ofString "t", L + 1 + 1 + 1 + 1 + 1 + 1 + 1 + 1 + 1), (Str.ofString "m", L + 1 + 1 + 1 + 1 + 1 + 1 + 1 + 1), (Str.ofString "a", L + 1 + 1 + 1 + 1 + 1 + 1 + 1), (Str.ofString "row", L + 1 + 1 + 1 + 1 + 1 + 1), (Str.ofString "z", L + 1 + 1 + 1 + 1 + 1), (Str.ofString "vals", L + 1 + 1 + 1 + 1), (Str.ofString "roots", L + 1 + 1 + 1), (Str.ofString "n", L + 1 + 1), (Str.ofString "q", L + 1)])) (S5 h₀ L m news s [] [(L+1+1+1+1+1+1+1)] fun _ nw => ∃ (x : Int) (t : Tok), Builtin.Int.intBits x ≤ 2 ^ 20 ∧ Cell nw (L+1+1+1+1+1+1+1) (some (.int x t))) E s := by
  obtain rfl : _ = st := Option.some.inj (hst : some _ = some st)
  obtain rfl : _ = scope := Option.some.inj (hsc : some _ = some scope)
  clear hst hsc
  refine RingIn.elim hr ?_
  clear hr
  intro dr h1r k1r h2r k2r tqr tnr cr hr1 hr2
  obtain ⟨ps1, hP1, ht1⟩ := ht1
  obtain ⟨ps2, hP2, ht2⟩ := ht2
  obtain ⟨oq, mq, xq⟩ := hcq
  obtain ⟨on, mn, xn⟩ := hcn
  obtain ⟨or, mr, xr⟩ := hcr
  obtain ⟨ov, mv, xv⟩ := hcv
  have hlr : rs.length = n := hro.len
  revert X; k_fill; intro X

  obtain ⟨oc, mc, xc⟩ := hca
  k_steps
  refine S5.cell (by k_asm) (by with_reducible assumption) (by with_reducible assumption) (by intro p hp; k_mem) mc xc hP1 ht1 hP2 ht2 (fun _ _ => rfl) hG rfl (by assumption) fun hc => ⟨_, _, by assumption, hc⟩
theorem walkOff33 : True := by
  w_top off
  trivial
set_option maxHeartbeats 4000000 in
theorem ybl3 (st : Stmt) (hst : loopStmt? PySem.Challenge.rw_xy0002_05.row.toRowW.prog 7 2 = some st)
    (scope : Scope) (hsc : lawScope? PySem.Challenge.rw_xy0002_05.row.toRowW.prog = some scope)
    (w : World) (mean : ExcName → Option Value) (mg mb : Str → Option Value) (dp un : Nat) (gd : Option (List Code)) (a : Addr) (ccd : Value) (outer : List Env) (A₀ : Around) (base h₀ : Heap) (L : Addr) (m : Str → Option Value) (s : Shared) (E : Value → Shared → Prop) (news : Led)
    (sl rg lr lh lv : Addr) (n : Nat) (q : Int) (tn tq : Tok) (svs vsr : List Value) (sns rs : List Int) (kr : Nat)
    (B : Below A₀ base outer h₀) (hS : base.IsList sl svs.toArray) (X : (hd05.heap_39 w.params).In h₀) (T : Top topProg (looseW Mine05.view [] ++ (recsOf Mine05.view).map (·.name) ++ (litsOf Mine05.view).map (·.1) ++ (clssOf Mine05.view (looseW Mine05.view [])).map (·.name)) mean mg mb h₀) (hdp : dp + 100 < recursionLimit) (hun : un + 800 < cLine)
    (hsi : IntsAre svs sns) (hsb : ∀ x ∈ sns, Builtin.Int.intBits x ≤ 2 ^ 20) (hsl : sns.length ≤ 63)
    (hC1 : CodeHd h₀ 238 234) (hC2 : CodeHd h₀ 243 241) (ht1 : Tab 234 news) (ht2 : Tab 241 news) (hG : AllBare s.gens)
    (hcq : Cell news (L+1) (some (.int q tq))) (hcn : Cell news (L+1+1) (some (.int (n : Int) tn))) (hcr : Cell news (L+1+1+1) (some (.ref lr))) (hcv : Cell news (L+1+1+1+1) (some (.ref lv)))
    (h1n : 1 ≤ n) (hn : n ≤ 8) (hq : 2 ≤ q) (hq2 : q ≤ 256) (hro : RootsOk q n rs) (hr : RingIn news rg q n) (hmr : (lr, W.listOf vsr.toArray kr) ∈ news) (hir : IntsAre vsr rs)
    (hm_s : m (Str.ofString "script") = some (.ref sl)) (hm_r : m (Str.ofString "ring") = some (.ref rg)) (hm_h : m (Str.ofString "have") = some (.ref lh))

    (i : Nat) (ti : Tok) (hi27 : i < 27) (hm_i : m (Str.ofString "r") = some (.int (i : Int) ti)) (v0 : Option Value) (hca : Cell news (L+1+1+1+1+1+1+1+1) v0)
    (F : Fr h₀ L s.heap m) (N : News h₀ L s.heap news) :
    wpAny (model PySem.Challenge.rw_xy0002_05.row.toRowW.prog w) (ktrTop dp un gd (Str.ofString "law") scope L a ccd [(Str.ofString "e", L + 1 + 1 + 1 + 1 + 1 + 1 + 1 + 1 + 1 + 1 + 1 + 1), (Str.ofString "y", L + 1 + 1 + 1 + 1 + 1 + 1 + 1 + 1 + 1 + 1 + 1), (Str.ofString "x", L + 1 + 1 + 1 + 1 + 1 + 1 + 1 + 1 + 1 + 1), (Str.ofString "t", L + 1 + 1 + 1 + 1 + 1 + 1 + 1 + 1 + 1), (Str.ofString "m", L + 1 + 1 + 1 + 1 + 1 + 1 + 1 + 1), (Str.ofString "a", L + 1 + 1 + 1 + 1 + 1 + 1 + 1), (Str.ofString "row", L + 1 + 1 + 1 + 1 + 1 + 1), (Str.ofString "z", L + 1 + 1 + 1 + 1 + 1), (Str.ofString "vals", L + 1 + 1 + 1 + 1), (Str.ofString "roots", L + 1 + 1 + 1), (Str.ofString "n", L + 1 + 1), (Str.ofString "q", L + 1)] outer) (exec st (envX (Str.ofString "law") scope L a ccd [(Str.ofString "e", L + 1 + 1 + 1 + 1 + 1 + 1 + 1 + 1 + 1 + 1 + 1 + 1), (Str.ofString "y", L + 1 + 1 + 1 + 1 + 1 + 1 + 1 + 1 + 1 + 1 + 1), (Str.ofString "x", L + 1 + 1 + 1 + 1 + 1 + 1 + 1 + 1 + 1 + 1), (Str.ofString "t", L + 1 + 1 + 1 + 1 + 1 + 1 + 1 + 1 + 1), (Str.ofString "m", L + 1 + 1 + 1 + 1 + 1 + 1 + 1 + 1), (Str.ofString "a", L + 1 + 1 + 1 + 1 + 1 + 1 + 1), (Str.ofString "row", L + 1 + 1 + 1 + 1 + 1 + 1), (Str.ofString "z", L + 1 + 1 + 1 + 1 + 1), (Str.ofString "vals", L + 1 + 1 + 1 + 1), (Str.ofString "roots", L + 1 + 1 + 1), (Str.ofString "n", L + 1 + 1), (Str.ofString "q", L + 1)])) (S5 h₀ L m news s [] [(L+1+1+1+1+1+1+1+1)] fun _ nw => ∃ (x : Int) (t : Tok), Builtin.Int.intBits x ≤ 2 ^ 20 ∧ Cell nw (L+1+1+1+1+1+1+1+1) (some (.int x t))) E s := by
  obtain rfl : _ = st := Option.some.inj (hst : some _ = some st)
  obtain rfl : _ = scope := Option.some.inj (hsc : some _ = some scope)
  clear hst hsc
  refine RingIn.elim hr ?_
  clear hr
  intro dr h1r k1r h2r k2r tqr tnr cr hr1 hr2
  obtain ⟨ps1, hP1, ht1⟩ := ht1
  obtain ⟨ps2, hP2, ht2⟩ := ht2
  obtain ⟨oq, mq, xq⟩ := hcq
  obtain ⟨on, mn, xn⟩ := hcn
  obtain ⟨or, mr, xr⟩ := hcr
  obtain ⟨ov, mv, xv⟩ := hcv
  have hlr : rs.length = n := hro.len
  revert X; k_fill; intro X

  obtain ⟨oc, mc, xc⟩ := hca
  k_steps
  refine S5.cell (by k_asm) (by with_reducible assumption) (by with_reducible assumption) (by intro p hp; k_mem) mc xc hP1 ht1 hP2 ht2 (fun _ _ => rfl) hG rfl (by assumption) fun hc => ⟨_, _, by assumption, hc⟩
theorem walkOff34 : True := by
  w_top off
  trivial
set_option maxHeartbeats 4000000 in
theorem ybl6 (st : Stmt) (hst : loopStmt? PySem.Challenge.rw_xy0002_05.row.toRowW.prog 7 5 = some st)
    (scope : Scope) (hsc : lawScope? PySem.Challenge.rw_xy0002_05.row.toRowW.prog = some scope)
    (w : World) (mean : ExcName → Option Value) (mg mb : Str → Option Value) (dp un : Nat) (gd : Option (List Code)) (a : Addr) (ccd : Value) (outer : List Env) (A₀ : Around) (base h₀ : Heap) (L : Addr) (m : Str → Option Value) (s : Shared) (E : Value → Shared → Prop) (news : Led)
    (sl rg lr lh lv : Addr) (n : Nat) (q : Int) (tn tq : Tok) (svs vsr : List Value) (sns rs : List Int) (kr : Nat)
    (B : Below A₀ base outer h₀) (hS : base.IsList sl svs.toArray) (X : (hd05.heap_39 w.params).In h₀) (T : Top topProg (looseW Mine05.view [] ++ (recsOf Mine05.view).map (·.name) ++ (litsOf Mine05.view).map (·.1) ++ (clssOf Mine05.view (looseW Mine05.view [])).map (·.name)) mean mg mb h₀) (hdp : dp + 100 < recursionLimit) (hun : un + 800 < cLine)
    (hsi : IntsAre svs sns) (hsb : ∀ x ∈ sns, Builtin.Int.intBits x ≤ 2 ^ 20) (hsl : sns.length ≤ 63)
    (hC1 : CodeHd h₀ 238 234) (hC2 : CodeHd h₀ 243 241) (ht1 : Tab 234 news) (ht2 : Tab 241 news) (hG : AllBare s.gens)
    (hcq : Cell news (L+1) (some (.int q tq))) (hcn : Cell news (L+1+1) (some (.int (n : Int) tn))) (hcr : Cell news (L+1+1+1) (some (.ref lr))) (hcv : Cell news (L+1+1+1+1) (some (.ref lv)))
    (h1n : 1 ≤ n) (hn : n ≤ 8) (hq : 2 ≤ q) (hq2 : q ≤ 256) (hro : RootsOk q n rs) (hr : RingIn news rg q n) (hmr : (lr, W.listOf vsr.toArray kr) ∈ news) (hir : IntsAre vsr rs)
    (hm_s : m (Str.ofString "script") = some (.ref sl)) (hm_r : m (Str.ofString "ring") = some (.ref rg)) (hm_h : m (Str.ofString "have") = some (.ref lh))

    (x : Int) (tx : Tok) (hca : Cell news (L+1+1+1+1+1+1+1) (some (.int x tx))) (v0 : Option Value) (hct : Cell news (L+1+1+1+1+1+1+1+1+1) v0)
    (F : Fr h₀ L s.heap m) (N : News h₀ L s.heap news) :
    wpAny (model PySem.Challenge.rw_xy0002_05.row.toRowW.prog w) (ktrTop dp un gd (Str.ofString "law") scope L a ccd [(Str.ofString "e", L + 1 + 1 + 1 + 1 + 1 + 1 + 1 + 1 + 1 + 1 + 1 + 1), (Str.ofString "y", L + 1 + 1 + 1 + 1 + 1 + 1 + 1 + 1 + 1 + 1 + 1), (Str.ofString "x", L + 1 + 1 + 1 + 1 + 1 + 1 + 1 + 1 + 1 + 1), (Str.ofString "t", L + 1 + 1 + 1 + 1 + 1 + 1 + 1 + 1 + 1), (Str.ofString "m", L + 1 + 1 + 1 + 1 + 1 + 1 + 1 + 1), (Str.ofString "a", L + 1 + 1 + 1 + 1 + 1 + 1 + 1), (Str.ofString "row", L + 1 + 1 + 1 + 1 + 1 + 1), (Str.ofString "z", L + 1 + 1 + 1 + 1 + 1), (Str.ofString "vals", L + 1 + 1 + 1 + 1), (Str.ofString "roots", L + 1 + 1 + 1), (Str.ofString "n", L + 1 + 1), (Str.ofString "q", L + 1)] outer) (exec st (envX (Str.ofString "law") scope L a ccd [(Str.ofString "e", L + 1 + 1 + 1 + 1 + 1 + 1 + 1 + 1 + 1 + 1 + 1 + 1), (Str.ofString "y", L + 1 + 1 + 1 + 1 + 1 + 1 + 1 + 1 + 1 + 1 + 1), (Str.ofString "x", L + 1 + 1 + 1 + 1 + 1 + 1 + 1 + 1 + 1 + 1), (Str.ofString "t", L + 1 + 1 + 1 + 1 + 1 + 1 + 1 + 1 + 1), (Str.ofString "m", L + 1 + 1 + 1 + 1 + 1 + 1 + 1 + 1), (Str.ofString "a", L + 1 + 1 + 1 + 1 + 1 + 1 + 1), (Str.ofString "row", L + 1 + 1 + 1 + 1 + 1 + 1), (Str.ofString "z", L + 1 + 1 + 1 + 1 + 1), (Str.ofString "vals", L + 1 + 1 + 1 + 1), (Str.ofString "roots", L + 1 + 1 + 1), (Str.ofString "n", L + 1 + 1), (Str.ofString "q", L + 1)])) (S5 h₀ L m news s [] [(L+1+1+1+1+1+1+1+1+1)] fun _ nw => ∃ (k : Nat) (t : Tok), k < 3 ∧ Cell nw (L+1+1+1+1+1+1+1+1+1) (some (.int (k : Int) t))) E s := by
  obtain rfl : _ = st := Option.some.inj (hst : some _ = some st)
  obtain rfl : _ = scope := Option.some.inj (hsc : some _ = some scope)
  clear hst hsc
  refine RingIn.elim hr ?_
  clear hr
  intro dr h1r k1r h2r k2r tqr tnr cr hr1 hr2
  obtain ⟨ps1, hP1, ht1⟩ := ht1
  obtain ⟨ps2, hP2, ht2⟩ := ht2
  obtain ⟨oq, mq, xq⟩ := hcq
  obtain ⟨on, mn, xn⟩ := hcn
  obtain ⟨or, mr, xr⟩ := hcr
  obtain ⟨ov, mv, xv⟩ := hcv
  have hlr : rs.length = n := hro.len
  revert X; k_fill; intro X

  obtain ⟨oa, ma, xa⟩ := hca
  obtain ⟨oc, mc, xc⟩ := hct
  k_steps
  obtain ⟨k, e, he⟩ := nat_fmodN (Int.fdiv x 9) 3 (by decide)
  refine S5.cell (by k_asm) (by with_reducible assumption) (by with_reducible assumption) (by intro p hp; k_mem) mc xc hP1 ht1 hP2 ht2 (fun _ _ => rfl) hG rfl (by assumption) fun hc => ⟨k, _, by omega, by rw [← e]; exact hc⟩
theorem walkOff35 : True := by
  w_top off
  trivial
set_option maxHeartbeats 4000000 in
theorem ybl7 (st : Stmt) (hst : loopStmt? PySem.Challenge.rw_xy0002_05.row.toRowW.prog 7 6 = some st)
    (scope : Scope) (hsc : lawScope? PySem.Challenge.rw_xy0002_05.row.toRowW.prog = some scope)
    (w : World) (mean : ExcName → Option Value) (mg mb : Str → Option Value) (dp un : Nat) (gd : Option (List Code)) (a : Addr) (ccd : Value) (outer : List Env) (A₀ : Around) (base h₀ : Heap) (L : Addr) (m : Str → Option Value) (s : Shared) (E : Value → Shared → Prop) (news : Led)
    (sl rg lr lh lv : Addr) (n : Nat) (q : Int) (tn tq : Tok) (svs vsr : List Value) (sns rs : List Int) (kr : Nat)
    (B : Below A₀ base outer h₀) (hS : base.IsList sl svs.toArray) (X : (hd05.heap_39 w.params).In h₀) (T : Top topProg (looseW Mine05.view [] ++ (recsOf Mine05.view).map (·.name) ++ (litsOf Mine05.view).map (·.1) ++ (clssOf Mine05.view (looseW Mine05.view [])).map (·.name)) mean mg mb h₀) (hdp : dp + 100 < recursionLimit) (hun : un + 800 < cLine)
    (hsi : IntsAre svs sns) (hsb : ∀ x ∈ sns, Builtin.Int.intBits x ≤ 2 ^ 20) (hsl : sns.length ≤ 63)
    (hC1 : CodeHd h₀ 238 234) (hC2 : CodeHd h₀ 243 241) (ht1 : Tab 234 news) (ht2 : Tab 241 news) (hG : AllBare s.gens)
    (hcq : Cell news (L+1) (some (.int q tq))) (hcn : Cell news (L+1+1) (some (.int (n : Int) tn))) (hcr : Cell news (L+1+1+1) (some (.ref lr))) (hcv : Cell news (L+1+1+1+1) (some (.ref lv)))
    (h1n : 1 ≤ n) (hn : n ≤ 8) (hq : 2 ≤ q) (hq2 : q ≤ 256) (hro : RootsOk q n rs) (hr : RingIn news rg q n) (hmr : (lr, W.listOf vsr.toArray kr) ∈ news) (hir : IntsAre vsr rs)
    (hm_s : m (Str.ofString "script") = some (.ref sl)) (hm_r : m (Str.ofString "ring") = some (.ref rg)) (hm_h : m (Str.ofString "have") = some (.ref lh))

    (k : Nat) (tk : Tok) (hk3 : k < 3) (hm_k : m (Str.ofString "i") = some (.int (k : Int) tk)) (hvs : List Value) (kh : Nat) (mh : (lh, W.listOf hvs.toArray kh) ∈ news) (v : Value) (hv : hvs[k]? = some v)
    (F : Fr h₀ L s.heap m) (N : News h₀ L s.heap news) :
    wpAny (model PySem.Challenge.rw_xy0002_05.row.toRowW.prog w) (ktrTop dp un gd (Str.ofString "law") scope L a ccd [(Str.ofString "e", L + 1 + 1 + 1 + 1 + 1 + 1 + 1 + 1 + 1 + 1 + 1 + 1), (Str.ofString "y", L + 1 + 1 + 1 + 1 + 1 + 1 + 1 + 1 + 1 + 1 + 1), (Str.ofString "x", L + 1 + 1 + 1 + 1 + 1 + 1 + 1 + 1 + 1 + 1), (Str.ofString "t", L + 1 + 1 + 1 + 1 + 1 + 1 + 1 + 1 + 1), (Str.ofString "m", L + 1 + 1 + 1 + 1 + 1 + 1 + 1 + 1), (Str.ofString "a", L + 1 + 1 + 1 + 1 + 1 + 1 + 1), (Str.ofString "row", L + 1 + 1 + 1 + 1 + 1 + 1), (Str.ofString "z", L + 1 + 1 + 1 + 1 + 1), (Str.ofString "vals", L + 1 + 1 + 1 + 1), (Str.ofString "roots", L + 1 + 1 + 1), (Str.ofString "n", L + 1 + 1), (Str.ofString "q", L + 1)] outer) (exec st (envX (Str.ofString "law") scope L a ccd [(Str.ofString "e", L + 1 + 1 + 1 + 1 + 1 + 1 + 1 + 1 + 1 + 1 + 1 + 1), (Str.ofString "y", L + 1 + 1 + 1 + 1 + 1 + 1 + 1 + 1 + 1 + 1 + 1), (Str.ofString "x", L + 1 + 1 + 1 + 1 + 1 + 1 + 1 + 1 + 1 + 1), (Str.ofString "t", L + 1 + 1 + 1 + 1 + 1 + 1 + 1 + 1 + 1), (Str.ofString "m", L + 1 + 1 + 1 + 1 + 1 + 1 + 1 + 1), (Str.ofString "a", L + 1 + 1 + 1 + 1 + 1 + 1 + 1), (Str.ofString "row", L + 1 + 1 + 1 + 1 + 1 + 1), (Str.ofString "z", L + 1 + 1 + 1 + 1 + 1), (Str.ofString "vals", L + 1 + 1 + 1 + 1), (Str.ofString "roots", L + 1 + 1 + 1), (Str.ofString "n", L + 1 + 1), (Str.ofString "q", L + 1)])) (S5 h₀ L m news s [Str.ofString "f"] [] fun m' _ => m' (Str.ofString "f") = some v) E s := by
  obtain rfl : _ = st := Option.some.inj (hst : some _ = some st)
  obtain rfl : _ = scope := Option.some.inj (hsc : some _ = some scope)
  clear hst hsc
  refine RingIn.elim hr ?_
  clear hr
  intro dr h1r k1r h2r k2r tqr tnr cr hr1 hr2
  obtain ⟨ps1, hP1, ht1⟩ := ht1
  obtain ⟨ps2, hP2, ht2⟩ := ht2
  obtain ⟨oq, mq, xq⟩ := hcq
  obtain ⟨on, mn, xn⟩ := hcn
  obtain ⟨or, mr, xr⟩ := hcr
  obtain ⟨ov, mv, xv⟩ := hcv
  have hlr : rs.length = n := hro.len
  revert X; k_fill; intro X

  refine wpAny_Assign_Name (Subscript_ (wpAny_Name (loadName_L F hm_h (wpAny_Name (loadName_L F hm_k (item_L N mh hv (by omega) ?_) rfl rfl)) rfl rfl))) ?_
  · k_steps
    refine S5.sub (by k_asm) (by k_asm) (by intro p hp; k_mem) hP1 ht1 hP2 ht2 (fun z hz => m_one hz) hG rfl (if_pos rfl)
  · with_unfolding_all rfl
theorem walkOff36 : True := by
  w_top off
  trivial
set_option maxHeartbeats 4000000 in
theorem ybl8 (st : Stmt) (hst : loopStmt? PySem.Challenge.rw_xy0002_05.row.toRowW.prog 7 7 = some st)
    (scope : Scope) (hsc : lawScope? PySem.Challenge.rw_xy0002_05.row.toRowW.prog = some scope)
    (w : World) (mean : ExcName → Option Value) (mg mb : Str → Option Value) (dp un : Nat) (gd : Option (List Code)) (a : Addr) (ccd : Value) (outer : List Env) (A₀ : Around) (base h₀ : Heap) (L : Addr) (m : Str → Option Value) (s : Shared) (E : Value → Shared → Prop) (news : Led)
    (sl rg lr lh lv : Addr) (n : Nat) (q : Int) (tn tq : Tok) (svs vsr : List Value) (sns rs : List Int) (kr : Nat)
    (B : Below A₀ base outer h₀) (hS : base.IsList sl svs.toArray) (X : (hd05.heap_39 w.params).In h₀) (T : Top topProg (looseW Mine05.view [] ++ (recsOf Mine05.view).map (·.name) ++ (litsOf Mine05.view).map (·.1) ++ (clssOf Mine05.view (looseW Mine05.view [])).map (·.name)) mean mg mb h₀) (hdp : dp + 100 < recursionLimit) (hun : un + 800 < cLine)
    (hsi : IntsAre svs sns) (hsb : ∀ x ∈ sns, Builtin.Int.intBits x ≤ 2 ^ 20) (hsl : sns.length ≤ 63)
    (hC1 : CodeHd h₀ 238 234) (hC2 : CodeHd h₀ 243 241) (ht1 : Tab 234 news) (ht2 : Tab 241 news) (hG : AllBare s.gens)
    (hcq : Cell news (L+1) (some (.int q tq))) (hcn : Cell news (L+1+1) (some (.int (n : Int) tn))) (hcr : Cell news (L+1+1+1) (some (.ref lr))) (hcv : Cell news (L+1+1+1+1) (some (.ref lv)))
    (h1n : 1 ≤ n) (hn : n ≤ 8) (hq : 2 ≤ q) (hq2 : q ≤ 256) (hro : RootsOk q n rs) (hr : RingIn news rg q n) (hmr : (lr, W.listOf vsr.toArray kr) ∈ news) (hir : IntsAre vsr rs)
    (hm_s : m (Str.ofString "script") = some (.ref sl)) (hm_r : m (Str.ofString "ring") = some (.ref rg)) (hm_h : m (Str.ofString "have") = some (.ref lh))

    (k : Nat) (tk : Tok) (hk3 : k < 3) (hm_k : m (Str.ofString "j") = some (.int (k : Int) tk)) (hvs : List Value) (kh : Nat) (mh : (lh, W.listOf hvs.toArray kh) ∈ news) (v : Value) (hv : hvs[k]? = some v)
    (F : Fr h₀ L s.heap m) (N : News h₀ L s.heap news) :
    wpAny (model PySem.Challenge.rw_xy0002_05.row.toRowW.prog w) (ktrTop dp un gd (Str.ofString "law") scope L a ccd [(Str.ofString "e", L + 1 + 1 + 1 + 1 + 1 + 1 + 1 + 1 + 1 + 1 + 1 + 1), (Str.ofString "y", L + 1 + 1 + 1 + 1 + 1 + 1 + 1 + 1 + 1 + 1 + 1), (Str.ofString "x", L + 1 + 1 + 1 + 1 + 1 + 1 + 1 + 1 + 1 + 1), (Str.ofString "t", L + 1 + 1 + 1 + 1 + 1 + 1 + 1 + 1 + 1), (Str.ofString "m", L + 1 + 1 + 1 + 1 + 1 + 1 + 1 + 1), (Str.ofString "a", L + 1 + 1 + 1 + 1 + 1 + 1 + 1), (Str.ofString "row", L + 1 + 1 + 1 + 1 + 1 + 1), (Str.ofString "z", L + 1 + 1 + 1 + 1 + 1), (Str.ofString "vals", L + 1 + 1 + 1 + 1), (Str.ofString "roots", L + 1 + 1 + 1), (Str.ofString "n", L + 1 + 1), (Str.ofString "q", L + 1)] outer) (exec st (envX (Str.ofString "law") scope L a ccd [(Str.ofString "e", L + 1 + 1 + 1 + 1 + 1 + 1 + 1 + 1 + 1 + 1 + 1 + 1), (Str.ofString "y", L + 1 + 1 + 1 + 1 + 1 + 1 + 1 + 1 + 1 + 1 + 1), (Str.ofString "x", L + 1 + 1 + 1 + 1 + 1 + 1 + 1 + 1 + 1 + 1), (Str.ofString "t", L + 1 + 1 + 1 + 1 + 1 + 1 + 1 + 1 + 1), (Str.ofString "m", L + 1 + 1 + 1 + 1 + 1 + 1 + 1 + 1), (Str.ofString "a", L + 1 + 1 + 1 + 1 + 1 + 1 + 1), (Str.ofString "row", L + 1 + 1 + 1 + 1 + 1 + 1), (Str.ofString "z", L + 1 + 1 + 1 + 1 + 1), (Str.ofString "vals", L + 1 + 1 + 1 + 1), (Str.ofString "roots", L + 1 + 1 + 1), (Str.ofString "n", L + 1 + 1), (Str.ofString "q", L + 1)])) (S5 h₀ L m news s [Str.ofString "g"] [] fun m' _ => m' (Str.ofString "g") = some v) E s := by
  obtain rfl : _ = st := Option.some.inj (hst : some _ = some st)
  obtain rfl : _ = scope := Option.some.inj (hsc : some _ = some scope)
  clear hst hsc
  refine RingIn.elim hr ?_
  clear hr
  intro dr h1r k1r h2r k2r tqr tnr cr hr1 hr2
  obtain ⟨ps1, hP1, ht1⟩ := ht1
  obtain ⟨ps2, hP2, ht2⟩ := ht2
  obtain ⟨oq, mq, xq⟩ := hcq
  obtain ⟨on, mn, xn⟩ := hcn
  obtain ⟨or, mr, xr⟩ := hcr
  obtain ⟨ov, mv, xv⟩ := hcv
  have hlr : rs.length = n := hro.len
  revert X; k_fill; intro X

  refine wpAny_Assign_Name (Subscript_ (wpAny_Name (loadName_L F hm_h (wpAny_Name (loadName_L F hm_k (item_L N mh hv (by omega) ?_) rfl rfl)) rfl rfl))) ?_
  · k_steps
    refine S5.sub (by k_asm) (by k_asm) (by intro p hp; k_mem) hP1 ht1 hP2 ht2 (fun z hz => m_one hz) hG rfl (if_pos rfl)
  · with_unfolding_all rfl
theorem walkOff37 : True := by
  w_top off
  trivial
set_option maxHeartbeats 4000000 in
theorem ybl9 (st : Stmt) (hst : loopStmt? PySem.Challenge.rw_xy0002_05.row.toRowW.prog 7 8 = some st)
    (scope : Scope) (hsc : lawScope? PySem.Challenge.rw_xy0002_05.row.toRowW.prog = some scope)
    (w : World) (mean : ExcName → Option Value) (mg mb : Str → Option Value) (dp un : Nat) (gd : Option (List Code)) (a : Addr) (ccd : Value) (outer : List Env) (A₀ : Around) (base h₀ : Heap) (L : Addr) (m : Str → Option Value) (s : Shared) (E : Value → Shared → Prop) (news : Led)
    (sl rg lr lh lv : Addr) (n : Nat) (q : Int) (tn tq : Tok) (svs vsr : List Value) (sns rs : List Int) (kr : Nat)
    (B : Below A₀ base outer h₀) (hS : base.IsList sl svs.toArray) (X : (hd05.heap_39 w.params).In h₀) (T : Top topProg (looseW Mine05.view [] ++ (recsOf Mine05.view).map (·.name) ++ (litsOf Mine05.view).map (·.1) ++ (clssOf Mine05.view (looseW Mine05.view [])).map (·.name)) mean mg mb h₀) (hdp : dp + 100 < recursionLimit) (hun : un + 800 < cLine)
    (hsi : IntsAre svs sns) (hsb : ∀ x ∈ sns, Builtin.Int.intBits x ≤ 2 ^ 20) (hsl : sns.length ≤ 63)
    (hC1 : CodeHd h₀ 238 234) (hC2 : CodeHd h₀ 243 241) (ht1 : Tab 234 news) (ht2 : Tab 241 news) (hG : AllBare s.gens)
    (hcq : Cell news (L+1) (some (.int q tq))) (hcn : Cell news (L+1+1) (some (.int (n : Int) tn))) (hcr : Cell news (L+1+1+1) (some (.ref lr))) (hcv : Cell news (L+1+1+1+1) (some (.ref lv)))
    (h1n : 1 ≤ n) (hn : n ≤ 8) (hq : 2 ≤ q) (hq2 : q ≤ 256) (hro : RootsOk q n rs) (hr : RingIn news rg q n) (hmr : (lr, W.listOf vsr.toArray kr) ∈ news) (hir : IntsAre vsr rs)
    (hm_s : m (Str.ofString "script") = some (.ref sl)) (hm_r : m (Str.ofString "ring") = some (.ref rg)) (hm_h : m (Str.ofString "have") = some (.ref lh))

    (k : Nat) (tk : Tok) (hk3 : k < 3) (hm_k : m (Str.ofString "i") = some (.int (k : Int) tk)) (hvs : List Value) (kh : Nat) (mh : (lv, W.listOf hvs.toArray kh) ∈ news) (v : Value) (hv : hvs[k]? = some v) (v0 : Option Value) (hct : Cell news (L+1+1+1+1+1+1+1+1+1+1) v0)
    (F : Fr h₀ L s.heap m) (N : News h₀ L s.heap news) :
    wpAny (model PySem.Challenge.rw_xy0002_05.row.toRowW.prog w) (ktrTop dp un gd (Str.ofString "law") scope L a ccd [(Str.ofString "e", L + 1 + 1 + 1 + 1 + 1 + 1 + 1 + 1 + 1 + 1 + 1 + 1), (Str.ofString "y", L + 1 + 1 + 1 + 1 + 1 + 1 + 1 + 1 + 1 + 1 + 1), (Str.ofString "x", L + 1 + 1 + 1 + 1 + 1 + 1 + 1 + 1 + 1 + 1), (Str.ofString "t", L + 1 + 1 + 1 + 1 + 1 + 1 + 1 + 1 + 1), (Str.ofString "m", L + 1 + 1 + 1 + 1 + 1 + 1 + 1 + 1), (Str.ofString "a", L + 1 + 1 + 1 + 1 + 1 + 1 + 1), (Str.ofString "row", L + 1 + 1 + 1 + 1 + 1 + 1), (Str.ofString "z", L + 1 + 1 + 1 + 1 + 1), (Str.ofString "vals", L + 1 + 1 + 1 + 1), (Str.ofString "roots", L + 1 + 1 + 1), (Str.ofString "n", L + 1 + 1), (Str.ofString "q", L + 1)] outer) (exec st (envX (Str.ofString "law") scope L a ccd [(Str.ofString "e", L + 1 + 1 + 1 + 1 + 1 + 1 + 1 + 1 + 1 + 1 + 1 + 1), (Str.ofString "y", L + 1 + 1 + 1 + 1 + 1 + 1 + 1 + 1 + 1 + 1 + 1), (Str.ofString "x", L + 1 + 1 + 1 + 1 + 1 + 1 + 1 + 1 + 1 + 1), (Str.ofString "t", L + 1 + 1 + 1 + 1 + 1 + 1 + 1 + 1 + 1), (Str.ofString "m", L + 1 + 1 + 1 + 1 + 1 + 1 + 1 + 1), (Str.ofString "a", L + 1 + 1 + 1 + 1 + 1 + 1 + 1), (Str.ofString "row", L + 1 + 1 + 1 + 1 + 1 + 1), (Str.ofString "z", L + 1 + 1 + 1 + 1 + 1), (Str.ofString "vals", L + 1 + 1 + 1 + 1), (Str.ofString "roots", L + 1 + 1 + 1), (Str.ofString "n", L + 1 + 1), (Str.ofString "q", L + 1)])) (S5 h₀ L m news s [] [(L+1+1+1+1+1+1+1+1+1+1)] fun _ nw => Cell nw (L+1+1+1+1+1+1+1+1+1+1) (some v)) E s := by
  obtain rfl : _ = st := Option.some.inj (hst : some _ = some st)
  obtain rfl : _ = scope := Option.some.inj (hsc : some _ = some scope)
  clear hst hsc
  refine RingIn.elim hr ?_
  clear hr
  intro dr h1r k1r h2r k2r tqr tnr cr hr1 hr2
  obtain ⟨ps1, hP1, ht1⟩ := ht1
  obtain ⟨ps2, hP2, ht2⟩ := ht2
  obtain ⟨oq, mq, xq⟩ := hcq
  obtain ⟨on, mn, xn⟩ := hcn
  obtain ⟨or, mr, xr⟩ := hcr
  obtain ⟨ov, mv, xv⟩ := hcv
  have hlr : rs.length = n := hro.len
  revert X; k_fill; intro X

  obtain ⟨oc, mc, xc⟩ := hct
  refine wpAny_Assign_Name (Subscript_ (wpAny_Name (wpAny_loadName_cell (by rfl) (by rfl) (by rfl) ⟨_, (N _ mv).1, xv⟩ (wpAny_Name (loadName_L F hm_k (item_L N mh hv (by omega) ?_) rfl rfl))))) ?_
  · k_steps
    refine S5.cell (by k_asm) (by with_reducible assumption) (by with_reducible assumption) (by intro p hp; k_mem) mc xc hP1 ht1 hP2 ht2 (fun _ _ => rfl) hG rfl (by assumption) fun hc => hc
  · with_unfolding_all rfl
theorem walkOff38 : True := by
  w_top off
  trivial
set_option maxHeartbeats 4000000 in
theorem ybl10 (st : Stmt) (hst : loopStmt? PySem.Challenge.rw_xy0002_05.row.toRowW.prog 7 9 = some st)
    (scope : Scope) (hsc : lawScope? PySem.Challenge.rw_xy0002_05.row.toRowW.prog = some scope)
    (w : World) (mean : ExcName → Option Value) (mg mb : Str → Option Value) (dp un : Nat) (gd : Option (List Code)) (a : Addr) (ccd : Value) (outer : List Env) (A₀ : Around) (base h₀ : Heap) (L : Addr) (m : Str → Option Value) (s : Shared) (E : Value → Shared → Prop) (news : Led)
    (sl rg lr lh lv : Addr) (n : Nat) (q : Int) (tn tq : Tok) (svs vsr : List Value) (sns rs : List Int) (kr : Nat)
    (B : Below A₀ base outer h₀) (hS : base.IsList sl svs.toArray) (X : (hd05.heap_39 w.params).In h₀) (T : Top topProg (looseW Mine05.view [] ++ (recsOf Mine05.view).map (·.name) ++ (litsOf Mine05.view).map (·.1) ++ (clssOf Mine05.view (looseW Mine05.view [])).map (·.name)) mean mg mb h₀) (hdp : dp + 100 < recursionLimit) (hun : un + 800 < cLine)
    (hsi : IntsAre svs sns) (hsb : ∀ x ∈ sns, Builtin.Int.intBits x ≤ 2 ^ 20) (hsl : sns.length ≤ 63)
    (hC1 : CodeHd h₀ 238 234) (hC2 : CodeHd h₀ 243 241) (ht1 : Tab 234 news) (ht2 : Tab 241 news) (hG : AllBare s.gens)
    (hcq : Cell news (L+1) (some (.int q tq))) (hcn : Cell news (L+1+1) (some (.int (n : Int) tn))) (hcr : Cell news (L+1+1+1) (some (.ref lr))) (hcv : Cell news (L+1+1+1+1) (some (.ref lv)))
    (h1n : 1 ≤ n) (hn : n ≤ 8) (hq : 2 ≤ q) (hq2 : q ≤ 256) (hro : RootsOk q n rs) (hr : RingIn news rg q n) (hmr : (lr, W.listOf vsr.toArray kr) ∈ news) (hir : IntsAre vsr rs)
    (hm_s : m (Str.ofString "script") = some (.ref sl)) (hm_r : m (Str.ofString "ring") = some (.ref rg)) (hm_h : m (Str.ofString "have") = some (.ref lh))

    (k : Nat) (tk : Tok) (hk3 : k < 3) (hm_k : m (Str.ofString "j") = some (.int (k : Int) tk)) (hvs : List Value) (kh : Nat) (mh : (lv, W.listOf hvs.toArray kh) ∈ news) (v : Value) (hv : hvs[k]? = some v) (v0 : Option Value) (hct : Cell news (L+1+1+1+1+1+1+1+1+1+1+1) v0)
    (F : Fr h₀ L s.heap m) (N : News h₀ L s.heap news) :
    wpAny (model PySem.Challenge.rw_xy0002_05.row.toRowW.prog w) (ktrTop dp un gd (Str.ofString "law") scope L a ccd [(Str.ofString "e", L + 1 + 1 + 1 + 1 + 1 + 1 + 1 + 1 + 1 + 1 + 1 + 1), (Str.ofString "y", L + 1 + 1 + 1 + 1 + 1 + 1 + 1 + 1 + 1 + 1 + 1), (Str.ofString "x", L + 1 + 1 + 1 + 1 + 1 + 1 + 1 + 1 + 1 + 1), (Str.ofString "t", L + 1 + 1 + 1 + 1 + 1 + 1 + 1 + 1 + 1), (Str.ofString "m", L + 1 + 1 + 1 + 1 + 1 + 1 + 1 + 1), (Str.ofString "a", L + 1 + 1 + 1 + 1 + 1 + 1 + 1), (Str.ofString "row", L + 1 + 1 + 1 + 1 + 1 + 1), (Str.ofString "z", L + 1 + 1 + 1 + 1 + 1), (Str.ofString "vals", L + 1 + 1 + 1 + 1), (Str.ofString "roots", L + 1 + 1 + 1), (Str.ofString "n", L + 1 + 1), (Str.ofString "q", L + 1)] outer) (exec st (envX (Str.ofString "law") scope L a ccd [(Str.ofString "e", L + 1 + 1 + 1 + 1 + 1 + 1 + 1 + 1 + 1 + 1 + 1 + 1), (Str.ofString "y", L + 1 + 1 + 1 + 1 + 1 + 1 + 1 + 1 + 1 + 1 + 1), (Str.ofString "x", L + 1 + 1 + 1 + 1 + 1 + 1 + 1 + 1 + 1 + 1), (Str.ofString "t", L + 1 + 1 + 1 + 1 + 1 + 1 + 1 + 1 + 1), (Str.ofString "m", L + 1 + 1 + 1 + 1 + 1 + 1 + 1 + 1), (Str.ofString "a", L + 1 + 1 + 1 + 1 + 1 + 1 + 1), (Str.ofString "row", L + 1 + 1 + 1 + 1 + 1 + 1), (Str.ofString "z", L + 1 + 1 + 1 + 1 + 1), (Str.ofString "vals", L + 1 + 1 + 1 + 1), (Str.ofString "roots", L + 1 + 1 + 1), (Str.ofString "n", L + 1 + 1), (Str.ofString "q", L + 1)])) (S5 h₀ L m news s [] [(L+1+1+1+1+1+1+1+1+1+1+1)] fun _ nw => Cell nw (L+1+1+1+1+1+1+1+1+1+1+1) (some v)) E s := by
  obtain rfl : _ = st := Option.some.inj (hst : some _ = some st)
  obtain rfl : _ = scope := Option.some.inj (hsc : some _ = some scope)
  clear hst hsc
  refine RingIn.elim hr ?_
  clear hr
  intro dr h1r k1r h2r k2r tqr tnr cr hr1 hr2
  obtain ⟨ps1, hP1, ht1⟩ := ht1
  obtain ⟨ps2, hP2, ht2⟩ := ht2
  obtain ⟨oq, mq, xq⟩ := hcq
  obtain ⟨on, mn, xn⟩ := hcn
  obtain ⟨or, mr, xr⟩ := hcr
  obtain ⟨ov, mv, xv⟩ := hcv
  have hlr : rs.length = n := hro.len
  revert X; k_fill; intro X

  obtain ⟨oc, mc, xc⟩ := hct
  refine wpAny_Assign_Name (Subscript_ (wpAny_Name (wpAny_loadName_cell (by rfl) (by rfl) (by rfl) ⟨_, (N _ mv).1, xv⟩ (wpAny_Name (loadName_L F hm_k (item_L N mh hv (by omega) ?_) rfl rfl))))) ?_
  · k_steps
    refine S5.cell (by k_asm) (by with_reducible assumption) (by with_reducible assumption) (by intro p hp; k_mem) mc xc hP1 ht1 hP2 ht2 (fun _ _ => rfl) hG rfl (by assumption) fun hc => hc
  · with_unfolding_all rfl
section
local macro_rules | `(tactic| walk_at "call ref") => `(tactic| (k_here; (with_reducible show wpAny _ _ (call (Value.ref 203) [Value.ref _, Value.int _ _]) _ _ _); k_dflt (refine wpAny_call ?_; refine' Spec.use (pow_specX _ _ _ _ _ _ _ _ _ _ _ _ _ ?zhx ?zhr ?zhp ?zhlen ?zh1n ?zhn ?zhq ?zhq2 ?zhb ?zhe) ?zB ?zF ?zX ?zN ?zT ?zhk ?zhd ?zhu ?_; (case zhx => first | rfl | exact (Int.natCast_add _ _).symm); walk_at "@c"); k_dflt (walk_at "@po"); walk_at "@e"))
theorem walkOff39 : True := by
  w_top off
  trivial
set_option maxHeartbeats 4000000 in
theorem ybr7 (st : List Stmt) (hst : (loopStmt? PySem.Challenge.rw_xy0002_05.row.toRowW.prog 7 10).bind (ifBody? 7) = some st)
    (scope : Scope) (hsc : lawScope? PySem.Challenge.rw_xy0002_05.row.toRowW.prog = some scope)
    (w : World) (mean : ExcName → Option Value) (mg mb : Str → Option Value) (dp un : Nat) (gd : Option (List Code)) (a : Addr) (ccd : Value) (outer : List Env) (A₀ : Around) (base h₀ : Heap) (L : Addr) (m : Str → Option Value) (s : Shared) (E : Value → Shared → Prop) (news : Led)
    (sl rg lr lh lv : Addr) (n : Nat) (q : Int) (tn tq : Tok) (svs vsr : List Value) (sns rs : List Int) (kr : Nat)
    (B : Below A₀ base outer h₀) (hS : base.IsList sl svs.toArray) (X : (hd05.heap_39 w.params).In h₀) (T : Top topProg (looseW Mine05.view [] ++ (recsOf Mine05.view).map (·.name) ++ (litsOf Mine05.view).map (·.1) ++ (clssOf Mine05.view (looseW Mine05.view [])).map (·.name)) mean mg mb h₀) (hdp : dp + 100 < recursionLimit) (hun : un + 800 < cLine)
    (hsi : IntsAre svs sns) (hsb : ∀ x ∈ sns, Builtin.Int.intBits x ≤ 2 ^ 20) (hsl : sns.length ≤ 63)
    (hC1 : CodeHd h₀ 238 234) (hC2 : CodeHd h₀ 243 241) (ht1 : Tab 234 news) (ht2 : Tab 241 news) (hG : AllBare s.gens)
    (hcq : Cell news (L+1) (some (.int q tq))) (hcn : Cell news (L+1+1) (some (.int (n : Int) tn))) (hcr : Cell news (L+1+1+1) (some (.ref lr))) (hcv : Cell news (L+1+1+1+1) (some (.ref lv)))
    (h1n : 1 ≤ n) (hn : n ≤ 8) (hq : 2 ≤ q) (hq2 : q ≤ 256) (hro : RootsOk q n rs) (hr : RingIn news rg q n) (hmr : (lr, W.listOf vsr.toArray kr) ∈ news) (hir : IntsAre vsr rs)
    (hm_s : m (Str.ofString "script") = some (.ref sl)) (hm_r : m (Str.ofString "ring") = some (.ref rg)) (hm_h : m (Str.ofString "have") = some (.ref lh))

    (vf vg : Value) (fcs gcs xs ys : List Int) (hm_f : m (Str.ofString "f") = some vf) (hm_g : m (Str.ofString "g") = some vg) (pf : PolyIn news vf rg fcs) (pg : PolyIn news vg rg gcs) (wx wy : Value) (lx : ListIn news wx xs) (ly : ListIn news wy ys) (hcx : Cell news (L+1+1+1+1+1+1+1+1+1+1) (some wx)) (hcy : Cell news (L+1+1+1+1+1+1+1+1+1+1+1) (some wy)) (evf : Ev q n rs fcs xs) (evg : Ev q n rs gcs ys) (xm : Int) (tm : Tok) (hbm : Builtin.Int.intBits xm ≤ 2 ^ 20) (hcm : Cell news (L+1+1+1+1+1+1+1+1) (some (.int xm tm))) (ve : Option Value) (hce : Cell news (L+1+1+1+1+1+1+1+1+1+1+1+1) ve)
    (F : Fr h₀ L s.heap m) (N : News h₀ L s.heap news) :
    wpAny (model PySem.Challenge.rw_xy0002_05.row.toRowW.prog w) (ktrTop dp un gd (Str.ofString "law") scope L a ccd [(Str.ofString "e", L + 1 + 1 + 1 + 1 + 1 + 1 + 1 + 1 + 1 + 1 + 1 + 1), (Str.ofString "y", L + 1 + 1 + 1 + 1 + 1 + 1 + 1 + 1 + 1 + 1 + 1), (Str.ofString "x", L + 1 + 1 + 1 + 1 + 1 + 1 + 1 + 1 + 1 + 1), (Str.ofString "t", L + 1 + 1 + 1 + 1 + 1 + 1 + 1 + 1 + 1), (Str.ofString "m", L + 1 + 1 + 1 + 1 + 1 + 1 + 1 + 1), (Str.ofString "a", L + 1 + 1 + 1 + 1 + 1 + 1 + 1), (Str.ofString "row", L + 1 + 1 + 1 + 1 + 1 + 1), (Str.ofString "z", L + 1 + 1 + 1 + 1 + 1), (Str.ofString "vals", L + 1 + 1 + 1 + 1), (Str.ofString "roots", L + 1 + 1 + 1), (Str.ofString "n", L + 1 + 1), (Str.ofString "q", L + 1)] outer) (execs st (envX (Str.ofString "law") scope L a ccd [(Str.ofString "e", L + 1 + 1 + 1 + 1 + 1 + 1 + 1 + 1 + 1 + 1 + 1 + 1), (Str.ofString "y", L + 1 + 1 + 1 + 1 + 1 + 1 + 1 + 1 + 1 + 1 + 1), (Str.ofString "x", L + 1 + 1 + 1 + 1 + 1 + 1 + 1 + 1 + 1 + 1), (Str.ofString "t", L + 1 + 1 + 1 + 1 + 1 + 1 + 1 + 1 + 1), (Str.ofString "m", L + 1 + 1 + 1 + 1 + 1 + 1 + 1 + 1), (Str.ofString "a", L + 1 + 1 + 1 + 1 + 1 + 1 + 1), (Str.ofString "row", L + 1 + 1 + 1 + 1 + 1 + 1), (Str.ofString "z", L + 1 + 1 + 1 + 1 + 1), (Str.ofString "vals", L + 1 + 1 + 1 + 1), (Str.ofString "roots", L + 1 + 1 + 1), (Str.ofString "n", L + 1 + 1), (Str.ofString "q", L + 1)])) (S5 h₀ L m news s [Str.ofString "new", Str.ofString "val"] [(L+1+1+1+1+1+1), (L+1+1+1+1+1+1+1+1+1+1+1+1)] (NV (Ev q n rs) rg)) E s := by
  obtain rfl : _ = st := Option.some.inj (hst : some _ = some st)
  obtain rfl : _ = scope := Option.some.inj (hsc : some _ = some scope)
  clear hst hsc
  refine RingIn.elim hr ?_
  clear hr
  intro dr h1r k1r h2r k2r tqr tnr cr hr1 hr2
  obtain ⟨ps1, hP1, ht1⟩ := ht1
  obtain ⟨ps2, hP2, ht2⟩ := ht2
  obtain ⟨oq, mq, xq⟩ := hcq
  obtain ⟨on, mn, xn⟩ := hcn
  obtain ⟨or, mr, xr⟩ := hcr
  obtain ⟨ov, mv, xv⟩ := hcv
  have hlr : rs.length = n := hro.len
  revert X; k_fill; intro X

  have hlf := evf.len
  have hlg := evg.len
  have hlx := evf.lenx hro
  have hly := evg.lenx hro
  have hbf := evf.bd
  have hbg := evg.bd
  refine step_S5 (h₀ := h₀) (L := L) (m := m) (news := news) (names := []) (cs := [(L+1+1+1+1+1+1), (L+1+1+1+1+1+1+1+1+1+1+1+1)]) (R := fun _ nw => ∃ (e : Nat) (t : Tok), e < 1000000000 ∧ Cell nw (L+1+1+1+1+1+1+1+1+1+1+1+1) (some (.int (e : Int) t))) ?_ ?_
  · obtain ⟨oe, me, xe⟩ := hce
    obtain ⟨om, mm, xm9⟩ := hcm
    k_steps
    have h10 : (10 : Int) ^ Int.toNat 9 = 1000000000 := by decide
    obtain ⟨e9, ee, he9⟩ := nat_fmodN (if xm < 0 then -xm else xm) 1000000000 (by decide)
    rename _ = Data.cell (some (Value.int _ _)) => dX
    rw [h10, ee] at dX
    exact S5.cells (S5.cell (by k_asm) (by with_reducible assumption) (by with_reducible assumption) (by intro p hp; k_mem) me xe hP1 ht1 hP2 ht2 (fun _ _ => rfl) hG rfl dX fun hc => ⟨e9, _, by omega, hc⟩) (fun c hc => List.mem_cons_of_mem _ hc)
  · skip
    intro m1 nw s1 F1 N1 hk hc t1 t2 hm1 G1 hos1 hr1'
    obtain ⟨e, te, he9, hce⟩ := hr1'
    have hmf1 : m1 (Str.ofString "f") = some vf := (hm1 _ rfl).trans hm_f
    have he62 : e < 2 ^ 62 := by omega
    replace hm1 : ∀ z, ([Str.ofString "new"].contains z = false) → m1 z = m z := fun z _ => hm1 z rfl
    clear F N hm_f hm_g
    obtain ⟨dr, h1r, k1r, h2r, k2r, tqr, tnr, cr, hr1, hr2⟩ := RingIn.k5 (RingIn.mk' hr1 hr2) hk
    replace pf := pf.k5 hk
    replace pg := pg.k5 hk
    replace lx := lx.k5 hk
    replace ly := ly.k5 hk
    replace hcx := hc _ _ (offE 10 rfl rfl) hcx
    replace hcy := hc _ _ (offE 11 rfl rfl) hcy
    replace hcm := hc _ _ (offE 8 rfl rfl) hcm
    obtain ⟨ps1, hP1, ht1⟩ := t1
    obtain ⟨ps2, hP2, ht2⟩ := t2
    refine step_S5 (h₀ := h₀) (L := L) (m := m1) (news := nw) (names := [Str.ofString "new"]) (cs := []) (R := fun m' nw => ∃ v, m' (Str.ofString "new") = some v ∧ PolyIn nw v rg (powL q n (1 :: List.replicate (n - 1) 0) fcs e)) ?_ ?_
    · skip
      obtain ⟨f, df, h3, k3, h4, k4, l, vs, k, cf, rfl, hp1, hp2, hp3, hi⟩ := pf
      obtain ⟨oe, me, xe⟩ := hce
      k_steps
      exact S5.sub (by k_asm) (by k_asm) (by intro p hp; k_mem) hP1 ht1 hP2 ht2 (fun z hz => m_one hz) G1 rfl ⟨_, if_pos rfl, PolyIn.mk' (by k_mem) (by k_mem) (by k_mem) (by assumption)⟩
    intro m2 nw2 s2 F2 N2 hk2 hc2 t1 t2 hm2 G2 hos2 hr2'
    replace hk := hk.trans hk2
    obtain ⟨oe2, me2, xe2⟩ := hc2 _ _ (fun h => nomatch h) hce
    replace hc2 := KC.mono (ds := [(L+1+1+1+1+1+1), (L+1+1+1+1+1+1+1+1+1+1+1+1)]) hc2 (fun _ h => nomatch h)
    replace hc := hc.trans hc2
    replace hm1 := fun z hz => (hm2 z hz).trans (hm1 z hz)
    replace hos1 := hos2.trans hos1
    clear F1 N1
    obtain ⟨v, hv, pv⟩ := hr2'
    obtain ⟨l1, vs1, k1, rfl, ml1, il1⟩ := lx.k5 hk2
    obtain ⟨l2, vs2, k2, rfl, ml2, il2⟩ := ly.k5 hk2
    obtain ⟨on, mn, xn⟩ := hc _ _ (offE 2 rfl rfl) ⟨on, mn, xn⟩
    obtain ⟨oq, mq, xq⟩ := hc _ _ (offE 1 rfl rfl) ⟨oq, mq, xq⟩
    obtain ⟨ox, mx, xx⟩ := hc2 _ _ (offE 10 rfl rfl) hcx
    obtain ⟨oy, my, xy⟩ := hc2 _ _ (offE 11 rfl rfl) hcy
    refine wpAny_execs_cons (Assign_L5 (news := nw2) (fun v => v ^ e % q) (by omega) ml1 il1 F2 N2 (by with_unfolding_all rfl) (by with_unfolding_all rfl) (by decide) (by rfl) (by decide) (by rfl) (by rfl) (by rfl) (by intro _; rfl) rfl ?hi ?turn ?fin)
    case hi => exact wpAny_Name (wpAny_loadName_cell (by rfl) (by rfl) (by rfl) ⟨_, (N2 _ mx).1, xx⟩ ⟨rfl, rfl⟩)
    case turn =>
      intro v9 t C oC m₂ h tk E' hk9 hC hx F' N'
      have N9 := newsTail N'
      have hnC := hC.ns (N' _ List.mem_cons_self).1
      have hv9 := evf.rng (by omega) v9 hk9
      refine Call_ (Name_function_global (by rfl) (by rfl) (loadGlobal_builtin (show Heap.Ns _ mainGlobals mg from T.g.keeps F'.keep) (mg_none_of X T.g (by k_is)) (T.b.keeps F'.keep) ((T.builtins "pow" (by decide)).trans boot_pow) ?_))
      refine callWith_builtin1 (he := rfl) (hplain := rfl) (args_cons (wpAny_Name (wpAny_loadName_local (by rfl) (by rfl) hnC hx ?_)))
      refine args_cons (wpAny_Name (wpAny_loadName_cell (by rfl) (by rfl) (by rfl) ⟨_, (N9 _ me2).1, xe2⟩ ?_))
      refine args_cons (wpAny_Name (wpAny_loadName_cell (by rfl) (by rfl) (by rfl) ⟨_, (N9 _ mq).1, xq⟩ (args_nil ?_)))
      refine call_pow3 (by omega) (by omega) ?_
      exact ⟨_, _, by rw [Int.toNat_natCast], rfl⟩
    case fin =>
      intro D h tk zs F' N' iz
      refine wpAny_execs_nil ?_
      refine S5.two hk hc t1 t2 F' N' (fun p hp => List.mem_cons_of_mem _ hp) (fun z hz => (if_neg (cont2 hz).2).trans (hm1 z (cont2 hz).1)) G2 hos1 ?_
      exact ⟨_, _, _, _, (if_neg (by decide)).trans hv, if_pos rfl, pv.mono (fun p hp => List.mem_cons_of_mem _ hp), ⟨_, _, _, rfl, List.mem_cons_self, iz⟩, ev_pow hro h1n hq hq2 e evf⟩
end
theorem walkOff40 : True := by
  w_top off
  trivial
set_option maxHeartbeats 4000000 in
theorem ybr9 (st : List Stmt) (hst : (loopStmt? PySem.Challenge.rw_xy0002_05.row.toRowW.prog 7 10).bind (ifBody? 9) = some st)
    (scope : Scope) (hsc : lawScope? PySem.Challenge.rw_xy0002_05.row.toRowW.prog = some scope)
    (w : World) (mean : ExcName → Option Value) (mg mb : Str → Option Value) (dp un : Nat) (gd : Option (List Code)) (a : Addr) (ccd : Value) (outer : List Env) (A₀ : Around) (base h₀ : Heap) (L : Addr) (m : Str → Option Value) (s : Shared) (E : Value → Shared → Prop) (news : Led)
    (sl rg lr lh lv : Addr) (n : Nat) (q : Int) (tn tq : Tok) (svs vsr : List Value) (sns rs : List Int) (kr : Nat)
    (B : Below A₀ base outer h₀) (hS : base.IsList sl svs.toArray) (X : (hd05.heap_39 w.params).In h₀) (T : Top topProg (looseW Mine05.view [] ++ (recsOf Mine05.view).map (·.name) ++ (litsOf Mine05.view).map (·.1) ++ (clssOf Mine05.view (looseW Mine05.view [])).map (·.name)) mean mg mb h₀) (hdp : dp + 100 < recursionLimit) (hun : un + 800 < cLine)
    (hsi : IntsAre svs sns) (hsb : ∀ x ∈ sns, Builtin.Int.intBits x ≤ 2 ^ 20) (hsl : sns.length ≤ 63)
    (hC1 : CodeHd h₀ 238 234) (hC2 : CodeHd h₀ 243 241) (ht1 : Tab 234 news) (ht2 : Tab 241 news) (hG : AllBare s.gens)
    (hcq : Cell news (L+1) (some (.int q tq))) (hcn : Cell news (L+1+1) (some (.int (n : Int) tn))) (hcr : Cell news (L+1+1+1) (some (.ref lr))) (hcv : Cell news (L+1+1+1+1) (some (.ref lv)))
    (h1n : 1 ≤ n) (hn : n ≤ 8) (hq : 2 ≤ q) (hq2 : q ≤ 256) (hro : RootsOk q n rs) (hr : RingIn news rg q n) (hmr : (lr, W.listOf vsr.toArray kr) ∈ news) (hir : IntsAre vsr rs)
    (hm_s : m (Str.ofString "script") = some (.ref sl)) (hm_r : m (Str.ofString "ring") = some (.ref rg)) (hm_h : m (Str.ofString "have") = some (.ref lh))

    (vf vg : Value) (fcs gcs xs ys : List Int) (hm_f : m (Str.ofString "f") = some vf) (hm_g : m (Str.ofString "g") = some vg) (pf : PolyIn news vf rg fcs) (pg : PolyIn news vg rg gcs) (wx wy : Value) (lx : ListIn news wx xs) (ly : ListIn news wy ys) (hcx : Cell news (L+1+1+1+1+1+1+1+1+1+1) (some wx)) (hcy : Cell news (L+1+1+1+1+1+1+1+1+1+1+1) (some wy)) (evf : Ev q n rs fcs xs) (evg : Ev q n rs gcs ys) (xm : Int) (tm : Tok) (hbm : Builtin.Int.intBits xm ≤ 2 ^ 20) (hcm : Cell news (L+1+1+1+1+1+1+1+1) (some (.int xm tm))) (xa : Int) (ta : Tok) (hba : Builtin.Int.intBits xa ≤ 2 ^ 20) (hca : Cell news (L+1+1+1+1+1+1+1) (some (.int xa ta))) (vr : Option Value) (hcw : Cell news (L+1+1+1+1+1+1) vr) (hm_ring : m (Str.ofString "ring") = some (.ref rg))
    (F : Fr h₀ L s.heap m) (N : News h₀ L s.heap news) :
    wpAny (model PySem.Challenge.rw_xy0002_05.row.toRowW.prog w) (ktrTop dp un gd (Str.ofString "law") scope L a ccd [(Str.ofString "e", L + 1 + 1 + 1 + 1 + 1 + 1 + 1 + 1 + 1 + 1 + 1 + 1), (Str.ofString "y", L + 1 + 1 + 1 + 1 + 1 + 1 + 1 + 1 + 1 + 1 + 1), (Str.ofString "x", L + 1 + 1 + 1 + 1 + 1 + 1 + 1 + 1 + 1 + 1), (Str.ofString "t", L + 1 + 1 + 1 + 1 + 1 + 1 + 1 + 1 + 1), (Str.ofString "m", L + 1 + 1 + 1 + 1 + 1 + 1 + 1 + 1), (Str.ofString "a", L + 1 + 1 + 1 + 1 + 1 + 1 + 1), (Str.ofString "row", L + 1 + 1 + 1 + 1 + 1 + 1), (Str.ofString "z", L + 1 + 1 + 1 + 1 + 1), (Str.ofString "vals", L + 1 + 1 + 1 + 1), (Str.ofString "roots", L + 1 + 1 + 1), (Str.ofString "n", L + 1 + 1), (Str.ofString "q", L + 1)] outer) (execs st (envX (Str.ofString "law") scope L a ccd [(Str.ofString "e", L + 1 + 1 + 1 + 1 + 1 + 1 + 1 + 1 + 1 + 1 + 1 + 1), (Str.ofString "y", L + 1 + 1 + 1 + 1 + 1 + 1 + 1 + 1 + 1 + 1 + 1), (Str.ofString "x", L + 1 + 1 + 1 + 1 + 1 + 1 + 1 + 1 + 1 + 1), (Str.ofString "t", L + 1 + 1 + 1 + 1 + 1 + 1 + 1 + 1 + 1), (Str.ofString "m", L + 1 + 1 + 1 + 1 + 1 + 1 + 1 + 1), (Str.ofString "a", L + 1 + 1 + 1 + 1 + 1 + 1 + 1), (Str.ofString "row", L + 1 + 1 + 1 + 1 + 1 + 1), (Str.ofString "z", L + 1 + 1 + 1 + 1 + 1), (Str.ofString "vals", L + 1 + 1 + 1 + 1), (Str.ofString "roots", L + 1 + 1 + 1), (Str.ofString "n", L + 1 + 1), (Str.ofString "q", L + 1)])) (S5 h₀ L m news s [Str.ofString "new", Str.ofString "val"] [(L+1+1+1+1+1+1), (L+1+1+1+1+1+1+1+1+1+1+1+1)] (NV (Ev q n rs) rg)) E s := by
  obtain rfl : _ = st := Option.some.inj (hst : some _ = some st)
  obtain rfl : _ = scope := Option.some.inj (hsc : some _ = some scope)
  clear hst hsc
  refine RingIn.elim hr ?_
  clear hr
  intro dr h1r k1r h2r k2r tqr tnr cr hr1 hr2
  obtain ⟨ps1, hP1, ht1⟩ := ht1
  obtain ⟨ps2, hP2, ht2⟩ := ht2
  obtain ⟨oq, mq, xq⟩ := hcq
  obtain ⟨on, mn, xn⟩ := hcn
  obtain ⟨or, mr, xr⟩ := hcr
  obtain ⟨ov, mv, xv⟩ := hcv
  have hlr : rs.length = n := hro.len
  revert X; k_fill; intro X

  have hlf := evf.len
  have hlg := evg.len
  have hlx := evf.lenx hro
  have hly := evg.lenx hro
  have hbf := evf.bd
  have hbg := evg.bd
  obtain ⟨k9, hk9, hk9l⟩ := nat_fmodN xm ((n : Int) + 1) (by omega)
  refine step_S5 (h₀ := h₀) (L := L) (m := m) (news := news) (names := []) (cs := [(L+1+1+1+1+1+1), (L+1+1+1+1+1+1+1+1+1+1+1+1)]) (R := fun _ nw => ∃ (D : Addr) (ys : List Value), (D, LCg.lst ys) ∈ nw ∧ IntsAre ys ((List.range k9).map fun u : Nat => xm - (u : Int) * xa) ∧ Cell nw (L+1+1+1+1+1+1) (some (.ref D))) ?_ ?_
  · obtain ⟨ow, mw, xw⟩ := hcw
    obtain ⟨om, mm, xm9⟩ := hcm
    obtain ⟨oa, ma, xa9⟩ := hca
    refine wpAny_Assign_Name (ListComp_R5 (news := news) k9 (fun u => xm - (u : Int) * xa) (by omega) F (by with_unfolding_all rfl) (by decide) (by rfl) (by decide) (by rfl) (by intro _; rfl) rfl ?hi ?turn ?fin) (by with_unfolding_all rfl)
    case hi =>
      refine Call_ (Name_function_global (by rfl) (by rfl) (loadGlobal_builtin (show Heap.Ns _ mainGlobals mg from T.g.keeps F.keep) (mg_none_of X T.g (by k_is)) (T.b.keeps F.keep) ((T.builtins "range" (by decide)).trans PyProof.Rows.boot_range) ?_))
      refine PyProof.Rows.callWith_type1 (args_cons (wpAny_BinOp ?_))
      refine wpAny_Name (wpAny_loadName_cell (by rfl) (by rfl) (by rfl) ⟨_, (N _ mm).1, xm9⟩ ?_)
      refine wpAny_BinOp (wpAny_Name (wpAny_loadName_cell (by rfl) (by rfl) (by rfl) ⟨_, (N _ mn).1, xn⟩ ?_))
      refine wpAny_Constant_int (PyProof.Rows.add_int (PyProof.Rows.mod_int (by omega) ?_))
      refine args_nil ?_
      rw [hk9]
      exact range1_rows F N fun h1 tk1 t1 u1 v1 hr1 Fr1 Nr1 kr1 => ⟨_, _, _, _, _, _, rfl, rfl, Fr1, Nr1, hr1⟩
    case turn =>
      intro i t C oC m₂ h tk E' hi hC hx F' N'
      have N9 := newsTail N'
      have hnC := hC.ns (N' _ List.mem_cons_self).1
      refine wpAny_BinOp (wpAny_Name (wpAny_loadName_cell (by rfl) (by rfl) (by rfl) ⟨_, (N9 _ mm).1, xm9⟩ ?_))
      refine wpAny_BinOp (wpAny_Name (wpAny_loadName_local (by rfl) (by rfl) hnC hx ?_))
      refine wpAny_Name (wpAny_loadName_cell (by rfl) (by rfl) (by rfl) ⟨_, (N9 _ ma).1, xa9⟩ ?_)
      refine PyProof.Rows.mul_int (PyProof.Rows.sub_int ?_) (mulOk_bd (bd_small (by omega) (by omega)) (Nat.le_trans hba (by decide)))
      exact ⟨_, _, rfl, rfl⟩
    case fin =>
      intro D h tk ys F' N' iy off
      k_steps
      exact S5.cells (S5.cell (by k_asm) (by with_reducible assumption) (by with_reducible assumption) (by intro p hp; k_mem) (List.mem_cons_of_mem _ mw) xw hP1 ht1 hP2 ht2 (fun _ _ => rfl) hG rfl (by assumption) fun hc => ⟨D, ys, List.mem_cons_of_mem _ (mem_offP List.mem_cons_self (Ne.symm (off _ mw))), iy, hc⟩) (fun c hc => by rw [List.mem_singleton.mp hc]; exact List.mem_cons_self)
  · intro m1 nw s1 F1 N1 hk hc t1 t2 hm1 G1 hos1 hr1'
    obtain ⟨D9, ys9, mD, iD, hcw⟩ := hr1'
    have hmr1 : m1 (Str.ofString "ring") = some (.ref rg) := (hm1 _ rfl).trans hm_ring
    replace hm1 : ∀ z, ([Str.ofString "new"].contains z = false) → m1 z = m z := fun z _ => hm1 z rfl
    have hrl : ((List.range k9).map fun u : Nat => xm - (u : Int) * xa).length ≤ n := by rw [List.length_map, List.length_range]; omega
    have hrb : ∀ x ∈ ((List.range k9).map fun u : Nat => xm - (u : Int) * xa), Bd x := by
      intro x hx
      obtain ⟨u, hu, rfl⟩ := List.mem_map.mp hx
      have := List.mem_range.mp hu
      exact bd_lin hbm hba (by omega)
    generalize ((List.range k9).map fun u : Nat => xm - (u : Int) * xa) = row9 at iD hrl hrb
    clear F N hm_f hm_g
    obtain ⟨dr, h1r, k1r, h2r, k2r, tqr, tnr, cr, hr1, hr2⟩ := RingIn.k5 (RingIn.mk' hr1 hr2) hk
    obtain ⟨ps1, hP1, ht1⟩ := t1
    obtain ⟨ps2, hP2, ht2⟩ := t2
    refine step_S5 (h₀ := h₀) (L := L) (m := m1) (news := nw) (names := [Str.ofString "new"]) (cs := []) (R := fun m' nw => ∃ v, m' (Str.ofString "new") = some v ∧ PolyIn nw v rg (row9 ++ List.replicate (n - row9.length) 0)) ?_ ?_
    · obtain ⟨ow, mw, xw⟩ := hcw
      k_steps
      exact S5.sub (by k_asm) (by k_asm) (by intro p hp; k_mem) hP1 ht1 hP2 ht2 (fun z hz => m_one hz) G1 rfl ⟨_, if_pos rfl, PolyIn.mk' (by k_mem) (by k_mem) (by k_mem) (by assumption)⟩
    intro m2 nw2 s2 F2 N2 hk2 hc2 t1 t2 hm2 G2 hos2 hr2'
    obtain ⟨v, hv, pv⟩ := hr2'
    obtain ⟨ow, mw, xw⟩ := hc2 _ _ (fun h => nomatch h) hcw
    replace hc2 := KC.mono (ds := [(L+1+1+1+1+1+1), (L+1+1+1+1+1+1+1+1+1+1+1+1)]) hc2 (fun _ h => nomatch h)
    have hmr2 := hk2.list (hk.list hmr)
    have mD2 : (D9, W.listOf ys9.toArray ys9.length) ∈ nw2 := hk2.list mD
    replace hk := hk.trans hk2
    replace hc := hc.trans hc2
    obtain ⟨oq, mq, xq⟩ := hc _ _ (offE 1 rfl rfl) ⟨oq, mq, xq⟩
    obtain ⟨or, mr, xr⟩ := hc _ _ (offE 3 rfl rfl) ⟨or, mr, xr⟩
    obtain ⟨ps1, hP1, ht1⟩ := t1
    obtain ⟨ps2, hP2, ht2⟩ := t2
    refine wpAny_execs_cons (Assign_ListComp_G F2 rfl (by with_unfolding_all rfl) (by with_unfolding_all rfl) (by decide) (by rfl) (by decide) (by rfl) (by rfl) (by rfl) ?hi (by intro _; rfl))
    case hi =>
      refine wpAny_Name (wpAny_loadName_cell (by rfl) (by rfl) (by rfl) ⟨_, (N2 _ mr).1, xr⟩ ?_)
      refine CSrcG.mk lr vsr.toArray kr nw2 (fun i ys nw => IntsAre ys ((rs.take i).map fun p => Int.fmod (preSum (fun i => row9.getD i 0 * p ^ i) row9.length) q) ∧ (∀ p ∈ nw2, p.1 ≠ 234 → p ∈ nw) ∧ ∃ ps, (234, tabObj ps) ∈ nw ∧ TriplesOk ps.toList) rfl rfl F2 N2 hmr2 (by rw [List.size_toArray, hir.length, PySem.sizeLine_eq]; omega) G2 ⟨.nil, fun p hp _ => hp, ps1, hP1, ht1⟩ ?turn ?fin
      case turn =>
        intro i v9 I oI C oC D ys nw s' E' hi hv9 hR hm9 hC9 F' N' off hnt G' hos
        obtain ⟨hI9, hsub, ps9, hP9, ht9⟩ := hR
        obtain ⟨m9, hC9, hx9⟩ := hC9
        have N9 := newsTail3 N'
        have hnC := hC9.ns (N' _ (List.mem_cons_of_mem _ List.mem_cons_self)).1
        have hirs : i < rs.length := by rw [List.size_toArray, hir.length] at hi; exact hi
        obtain ⟨tp, hp9⟩ := ints_getD hir hirs
        obtain rfl : v9 = .int (rs.getD i 0) tp := Option.some.inj (hv9.symm.trans (by rw [List.getElem?_toArray]; exact hp9))
        have hb9 := getD_all hro.rng hirs
        have kk : ∀ {a o}, (a, o) ∈ nw2 → (∀ ps, o ≠ tabObj ps) → (a, o) ∈ nw := fun h hn => hsub _ h (ob_ne (N2 _ hP1).1 (N2 _ h).1 (hn _))
        have qq := kk mq (fun _ => cell_neT xq)
        have qw := kk mw (fun _ => cell_neT xw)
        have ql := kk mD2 (fun _ => list_neT)
        refine Call_ (LCgL.ld_global F' X T (by k_is) ?_)
        refine callWith_K X (by k_is) ?_ (he := rfl) (hplain := rfl)
        refine args_cons (wpAny_Name (wpAny_loadName_cell (by rfl) (by rfl) (by rfl) ⟨_, (N9 _ qw).1, xw⟩ ?_))
        refine args_cons (wpAny_Name (wpAny_loadName_local (by rfl) (by rfl) hnC hx9 ?_))
        refine args_cons (wpAny_Name (wpAny_loadName_cell (by rfl) (by rfl) (by rfl) ⟨_, (N9 _ qq).1, xq⟩ (args_nil ?_)))
        refine ⟨by k_in, wpAny_call ?_⟩
        refine SpecT.use (value_spec w mean mg mb _ (.ref D9) row9 (rs.getD i 0) q tp tq ⟨D9, ys9, _, rfl, mem3 ql, iD⟩ (by omega) hrb hb9.1 (by omega) (by omega)) B F' X N' (mem3 hP9) ht9 hC1 G' T rfl (by omega) (by omega) fun r ps' nw3 s3 F3 N3 hs3 hP3 ht3 G3 hos3 hr3 => ?_
        obtain ⟨t3, rfl⟩ := hr3
        have hPn := off _ hP9
        refine TEnd.mk ((234, tabObj ps') :: offP 234 nw) nw3 F3 N3 (hs3 _ List.mem_cons_self (Ne.symm hPn.1)) (hs3 _ (List.mem_cons_of_mem _ List.mem_cons_self) (Ne.symm hPn.2.1)) (hs3 _ (List.mem_cons_of_mem _ (List.mem_cons_of_mem _ List.mem_cons_self)) (Ne.symm hPn.2.2)) (fun p hp => ?_) (fun p hp => ?_) G3 (hos3.trans hos) ⟨List.mem_cons_of_mem _ (mem_offP hm9 (ob_ne (N9 _ hP9).1 (N9 _ hm9).1 list_neT)), ?_, fun p hp hne => List.mem_cons_of_mem _ (mem_offP (hsub p hp hne) hne), ps', List.mem_cons_self, ht3⟩
        · rcases List.mem_cons.mp hp with rfl | hp
          · exact hP3
          · exact hs3 _ (mem3 (of_offP hp).1) (of_offP hp).2
        · rcases List.mem_cons.mp hp with rfl | hp
          · exact hPn
          · exact off _ (of_offP hp).1
        · rw [List.take_add_one, List.getElem?_eq_getElem hirs]
          have e9 : rs.getD i 0 = rs[i] := by simp [hirs]
          rw [← e9]
          simpa using IntsAre.append hI9 (.cons _ t3 .nil)
      case fin =>
        intro ys nw hR D s' F' N' off G' hos
        obtain ⟨hI9, hsub, ps9, hP9, ht9⟩ := hR
        rw [List.take_of_length_le (by rw [List.size_toArray, hir.length]; exact Nat.le_refl _)] at hI9
        refine wpAny_execs_nil ?_
        have hkk : K5 nw2 ((D, LCg.lst ys) :: nw) := .ofT N2 hP1 fun p hp hne => List.mem_cons_of_mem _ (hsub p hp hne)
        refine ⟨rfl, _, _, F', N', hk.trans hkk, hc.trans (.ofT N2 hP1 fun p hp hne => List.mem_cons_of_mem _ (hsub p hp hne)), ⟨ps9, List.mem_cons_of_mem _ hP9, ht9⟩, ⟨ps2, List.mem_cons_of_mem _ (hsub _ hP2 (show (241 : Addr) ≠ 234 by decide)), ht2⟩, fun z hz => (if_neg (cont2 hz).2).trans ((hm2 z (cont2 hz).1).trans (hm1 z (cont2 hz).1)), G', hos.trans (hos2.trans hos1), ?_⟩
        exact ⟨v, .ref D, _, _, (if_neg (by decide)).trans hv, if_pos rfl, pv.k5 hkk, ⟨D, ys, _, rfl, List.mem_cons_self, hI9⟩, ev_row hro hq hrb hrl⟩
theorem walkOff41 : True := by
  w_top off
  trivial
theorem primes_mem {x : Int} (h0 : 0 ≤ x) (h1 : x < 5) : ([17, 97, 113, 193, 241] : List Int).getD x.toNat 0 ∈ ([17, 97, 113, 193, 241] : List Int) := by
  obtain ⟨k, rfl⟩ : ∃ k : Nat, x = (k : Int) := ⟨x.toNat, by omega⟩
  rw [Int.toNat_natCast]
  have h : k < 5 := by omega
  match k, h with
  | 0, _ => decide
  | 1, _ => decide
  | 2, _ => decide
  | 3, _ => decide
  | 4, _ => decide
set_option maxHeartbeats 4000000 in
theorem zlw0 (st : Stmt) (hst : lawStmt? PySem.Challenge.rw_xy0002_05.row.toRowW.prog 0 = some st)
    (scope : Scope) (hsc : lawScope? PySem.Challenge.rw_xy0002_05.row.toRowW.prog = some scope)
    (w : World) (mean : ExcName → Option Value) (mg mb : Str → Option Value) (dp un : Nat) (gd : Option (List Code)) (a : Addr) (ccd : Value) (outer : List Env) (A₀ : Around) (base h₀ : Heap) (L : Addr) (m : Str → Option Value) (s : Shared) (E : Value → Shared → Prop) (news : Led)
    (sl : Addr) (svs : List Value) (sns : List Int)
    (B : Below A₀ base outer h₀) (hS : base.IsList sl svs.toArray) (X : (hd05.heap_39 w.params).In h₀) (T : Top topProg (looseW Mine05.view [] ++ (recsOf Mine05.view).map (·.name) ++ (litsOf Mine05.view).map (·.1) ++ (clssOf Mine05.view (looseW Mine05.view [])).map (·.name)) mean mg mb h₀) (hdp : dp + 100 < recursionLimit) (hun : un + 800 < cLine)
    (hsi : IntsAre svs sns) (hsb : ∀ x ∈ sns, Builtin.Int.intBits x ≤ 2 ^ 20) (hsl : sns.length ≤ 63)
    (hC1 : CodeHd h₀ 238 234) (hC2 : CodeHd h₀ 243 241) (ht1 : Tab 234 news) (ht2 : Tab 241 news) (hG : AllBare s.gens)
    (hm_s : m (Str.ofString "script") = some (.ref sl))
    (v0 : Option Value) (hcq : Cell news (L+1) v0) (F : Fr h₀ L s.heap m) (N : News h₀ L s.heap news) :
    wpAny (model PySem.Challenge.rw_xy0002_05.row.toRowW.prog w) (ktrTop dp un gd (Str.ofString "law") scope L a ccd [(Str.ofString "e", L + 1 + 1 + 1 + 1 + 1 + 1 + 1 + 1 + 1 + 1 + 1 + 1), (Str.ofString "y", L + 1 + 1 + 1 + 1 + 1 + 1 + 1 + 1 + 1 + 1 + 1), (Str.ofString "x", L + 1 + 1 + 1 + 1 + 1 + 1 + 1 + 1 + 1 + 1), (Str.ofString "t", L + 1 + 1 + 1 + 1 + 1 + 1 + 1 + 1 + 1), (Str.ofString "m", L + 1 + 1 + 1 + 1 + 1 + 1 + 1 + 1), (Str.ofString "a", L + 1 + 1 + 1 + 1 + 1 + 1 + 1), (Str.ofString "row", L + 1 + 1 + 1 + 1 + 1 + 1), (Str.ofString "z", L + 1 + 1 + 1 + 1 + 1), (Str.ofString "vals", L + 1 + 1 + 1 + 1), (Str.ofString "roots", L + 1 + 1 + 1), (Str.ofString "n", L + 1 + 1), (Str.ofString "q", L + 1)] outer) (exec st (envX (Str.ofString "law") scope L a ccd [(Str.ofString "e", L + 1 + 1 + 1 + 1 + 1 + 1 + 1 + 1 + 1 + 1 + 1 + 1), (Str.ofString "y", L + 1 + 1 + 1 + 1 + 1 + 1 + 1 + 1 + 1 + 1 + 1), (Str.ofString "x", L + 1 + 1 + 1 + 1 + 1 + 1 + 1 + 1 + 1 + 1), (Str.ofString "t", L + 1 + 1 + 1 + 1 + 1 + 1 + 1 + 1 + 1), (Str.ofString "m", L + 1 + 1 + 1 + 1 + 1 + 1 + 1 + 1), (Str.ofString "a", L + 1 + 1 + 1 + 1 + 1 + 1 + 1), (Str.ofString "row", L + 1 + 1 + 1 + 1 + 1 + 1), (Str.ofString "z", L + 1 + 1 + 1 + 1 + 1), (Str.ofString "vals", L + 1 + 1 + 1 + 1), (Str.ofString "roots", L + 1 + 1 + 1), (Str.ofString "n", L + 1 + 1), (Str.ofString "q", L + 1)])) (S5 h₀ L m news s [] [(L+1)] fun _ nw => ∃ (q : Int) (t : Tok), q ∈ ([17, 97, 113, 193, 241] : List Int) ∧ Cell nw (L+1) (some (.int q t))) E s := by
  obtain rfl : _ = st := Option.some.inj (hst : some _ = some st)
  obtain rfl : _ = scope := Option.some.inj (hsc : some _ = some scope)
  clear hst hsc
  obtain ⟨ps1, hP1, ht1⟩ := ht1
  obtain ⟨ps2, hP2, ht2⟩ := ht2
  revert X; k_fill; intro X
  obtain ⟨oc, mc, xc⟩ := hcq
  k_steps
  refine S5.cell (by k_asm) (by with_reducible assumption) (by with_reducible assumption) (by intro p hp; k_mem) mc xc hP1 ht1 hP2 ht2 (fun _ _ => rfl) hG rfl (by assumption) fun hc => ⟨_, _, primes_mem (by assumption) (by assumption), hc⟩
theorem walkOff42 : True := by
  w_top off
  trivial
theorem pow2_of {x : Int} (h0 : 0 ≤ x) (h1 : x < 4) : ∃ n : Nat, n ∈ ([1, 2, 4, 8] : List Nat) ∧ (2 : Int) ^ x.toNat = (n : Int) := by
  obtain ⟨k, rfl⟩ : ∃ k : Nat, x = (k : Int) := ⟨x.toNat, by omega⟩
  rw [Int.toNat_natCast]
  have h : k < 4 := by omega
  match k, h with
  | 0, _ => exact ⟨1, by decide, by decide⟩
  | 1, _ => exact ⟨2, by decide, by decide⟩
  | 2, _ => exact ⟨4, by decide, by decide⟩
  | 3, _ => exact ⟨8, by decide, by decide⟩
set_option maxHeartbeats 4000000 in
theorem zlw1 (st : Stmt) (hst : lawStmt? PySem.Challenge.rw_xy0002_05.row.toRowW.prog 1 = some st)
    (scope : Scope) (hsc : lawScope? PySem.Challenge.rw_xy0002_05.row.toRowW.prog = some scope)
    (w : World) (mean : ExcName → Option Value) (mg mb : Str → Option Value) (dp un : Nat) (gd : Option (List Code)) (a : Addr) (ccd : Value) (outer : List Env) (A₀ : Around) (base h₀ : Heap) (L : Addr) (m : Str → Option Value) (s : Shared) (E : Value → Shared → Prop) (news : Led)
    (sl : Addr) (svs : List Value) (sns : List Int)
    (B : Below A₀ base outer h₀) (hS : base.IsList sl svs.toArray) (X : (hd05.heap_39 w.params).In h₀) (T : Top topProg (looseW Mine05.view [] ++ (recsOf Mine05.view).map (·.name) ++ (litsOf Mine05.view).map (·.1) ++ (clssOf Mine05.view (looseW Mine05.view [])).map (·.name)) mean mg mb h₀) (hdp : dp + 100 < recursionLimit) (hun : un + 800 < cLine)
    (hsi : IntsAre svs sns) (hsb : ∀ x ∈ sns, Builtin.Int.intBits x ≤ 2 ^ 20) (hsl : sns.length ≤ 63)
    (hC1 : CodeHd h₀ 238 234) (hC2 : CodeHd h₀ 243 241) (ht1 : Tab 234 news) (ht2 : Tab 241 news) (hG : AllBare s.gens)
    (hm_s : m (Str.ofString "script") = some (.ref sl))
    (v0 : Option Value) (hcq : Cell news (L+1+1) v0) (F : Fr h₀ L s.heap m) (N : News h₀ L s.heap news) :
    wpAny (model PySem.Challenge.rw_xy0002_05.row.toRowW.prog w) (ktrTop dp un gd (Str.ofString "law") scope L a ccd [(Str.ofString "e", L + 1 + 1 + 1 + 1 + 1 + 1 + 1 + 1 + 1 + 1 + 1 + 1), (Str.ofString "y", L + 1 + 1 + 1 + 1 + 1 + 1 + 1 + 1 + 1 + 1 + 1), (Str.ofString "x", L + 1 + 1 + 1 + 1 + 1 + 1 + 1 + 1 + 1 + 1), (Str.ofString "t", L + 1 + 1 + 1 + 1 + 1 + 1 + 1 + 1 + 1), (Str.ofString "m", L + 1 + 1 + 1 + 1 + 1 + 1 + 1 + 1), (Str.ofString "a", L + 1 + 1 + 1 + 1 + 1 + 1 + 1), (Str.ofString "row", L + 1 + 1 + 1 + 1 + 1 + 1), (Str.ofString "z", L + 1 + 1 + 1 + 1 + 1), (Str.ofString "vals", L + 1 + 1 + 1 + 1), (Str.ofString "roots", L + 1 + 1 + 1), (Str.ofString "n", L + 1 + 1), (Str.ofString "q", L + 1)] outer) (exec st (envX (Str.ofString "law") scope L a ccd [(Str.ofString "e", L + 1 + 1 + 1 + 1 + 1 + 1 + 1 + 1 + 1 + 1 + 1 + 1), (Str.ofString "y", L + 1 + 1 + 1 + 1 + 1 + 1 + 1 + 1 + 1 + 1 + 1), (Str.ofString "x", L + 1 + 1 + 1 + 1 + 1 + 1 + 1 + 1 + 1 + 1), (Str.ofString "t", L + 1 + 1 + 1 + 1 + 1 + 1 + 1 + 1 + 1), (Str.ofString "m", L + 1 + 1 + 1 + 1 + 1 + 1 + 1 + 1), (Str.ofString "a", L + 1 + 1 + 1 + 1 + 1 + 1 + 1), (Str.ofString "row", L + 1 + 1 + 1 + 1 + 1 + 1), (Str.ofString "z", L + 1 + 1 + 1 + 1 + 1), (Str.ofString "vals", L + 1 + 1 + 1 + 1), (Str.ofString "roots", L + 1 + 1 + 1), (Str.ofString "n", L + 1 + 1), (Str.ofString "q", L + 1)])) (S5 h₀ L m news s [] [(L+1+1)] fun _ nw => ∃ (n : Nat) (t : Tok), n ∈ ([1, 2, 4, 8] : List Nat) ∧ Cell nw (L+1+1) (some (.int (n : Int) t))) E s := by
  obtain rfl : _ = st := Option.some.inj (hst : some _ = some st)
  obtain rfl : _ = scope := Option.some.inj (hsc : some _ = some scope)
  clear hst hsc
  obtain ⟨ps1, hP1, ht1⟩ := ht1
  obtain ⟨ps2, hP2, ht2⟩ := ht2
  revert X; k_fill; intro X
  obtain ⟨oc, mc, xc⟩ := hcq
  k_steps
  obtain ⟨n9, hn9, e9⟩ := pow2_of (x := Int.fmod x' 4) (by assumption) (by assumption)
  rename o'.data = _ => dX
  rw [e9] at dX
  refine S5.cell (by k_asm) (by with_reducible assumption) (by with_reducible assumption) (by intro p hp; k_mem) mc xc hP1 ht1 hP2 ht2 (fun _ _ => rfl) hG rfl dX fun hc => ⟨n9, _, hn9, hc⟩
theorem walkOff43 : True := by
  w_top off
  trivial
set_option maxHeartbeats 4000000 in
theorem zlw2 (st : Stmt) (hst : lawStmt? PySem.Challenge.rw_xy0002_05.row.toRowW.prog 2 = some st)
    (scope : Scope) (hsc : lawScope? PySem.Challenge.rw_xy0002_05.row.toRowW.prog = some scope)
    (w : World) (mean : ExcName → Option Value) (mg mb : Str → Option Value) (dp un : Nat) (gd : Option (List Code)) (a : Addr) (ccd : Value) (outer : List Env) (A₀ : Around) (base h₀ : Heap) (L : Addr) (m : Str → Option Value) (s : Shared) (E : Value → Shared → Prop) (news : Led)
    (sl : Addr) (svs : List Value) (sns : List Int)
    (B : Below A₀ base outer h₀) (hS : base.IsList sl svs.toArray) (X : (hd05.heap_39 w.params).In h₀) (T : Top topProg (looseW Mine05.view [] ++ (recsOf Mine05.view).map (·.name) ++ (litsOf Mine05.view).map (·.1) ++ (clssOf Mine05.view (looseW Mine05.view [])).map (·.name)) mean mg mb h₀) (hdp : dp + 100 < recursionLimit) (hun : un + 800 < cLine)
    (hsi : IntsAre svs sns) (hsb : ∀ x ∈ sns, Builtin.Int.intBits x ≤ 2 ^ 20) (hsl : sns.length ≤ 63)
    (hC1 : CodeHd h₀ 238 234) (hC2 : CodeHd h₀ 243 241) (ht1 : Tab 234 news) (ht2 : Tab 241 news) (hG : AllBare s.gens)
    (hm_s : m (Str.ofString "script") = some (.ref sl))
    (q : Int) (n : Nat) (tq tn : Tok) (hcq : Cell news (L+1) (some (.int q tq))) (hcn : Cell news (L+1+1) (some (.int (n : Int) tn))) (F : Fr h₀ L s.heap m) (N : News h₀ L s.heap news) :
    wpAny (model PySem.Challenge.rw_xy0002_05.row.toRowW.prog w) (ktrTop dp un gd (Str.ofString "law") scope L a ccd [(Str.ofString "e", L + 1 + 1 + 1 + 1 + 1 + 1 + 1 + 1 + 1 + 1 + 1 + 1), (Str.ofString "y", L + 1 + 1 + 1 + 1 + 1 + 1 + 1 + 1 + 1 + 1 + 1), (Str.ofString "x", L + 1 + 1 + 1 + 1 + 1 + 1 + 1 + 1 + 1 + 1), (Str.ofString "t", L + 1 + 1 + 1 + 1 + 1 + 1 + 1 + 1 + 1), (Str.ofString "m", L + 1 + 1 + 1 + 1 + 1 + 1 + 1 + 1), (Str.ofString "a", L + 1 + 1 + 1 + 1 + 1 + 1 + 1), (Str.ofString "row", L + 1 + 1 + 1 + 1 + 1 + 1), (Str.ofString "z", L + 1 + 1 + 1 + 1 + 1), (Str.ofString "vals", L + 1 + 1 + 1 + 1), (Str.ofString "roots", L + 1 + 1 + 1), (Str.ofString "n", L + 1 + 1), (Str.ofString "q", L + 1)] outer) (exec st (envX (Str.ofString "law") scope L a ccd [(Str.ofString "e", L + 1 + 1 + 1 + 1 + 1 + 1 + 1 + 1 + 1 + 1 + 1 + 1), (Str.ofString "y", L + 1 + 1 + 1 + 1 + 1 + 1 + 1 + 1 + 1 + 1 + 1), (Str.ofString "x", L + 1 + 1 + 1 + 1 + 1 + 1 + 1 + 1 + 1 + 1), (Str.ofString "t", L + 1 + 1 + 1 + 1 + 1 + 1 + 1 + 1 + 1), (Str.ofString "m", L + 1 + 1 + 1 + 1 + 1 + 1 + 1 + 1), (Str.ofString "a", L + 1 + 1 + 1 + 1 + 1 + 1 + 1), (Str.ofString "row", L + 1 + 1 + 1 + 1 + 1 + 1), (Str.ofString "z", L + 1 + 1 + 1 + 1 + 1), (Str.ofString "vals", L + 1 + 1 + 1 + 1), (Str.ofString "roots", L + 1 + 1 + 1), (Str.ofString "n", L + 1 + 1), (Str.ofString "q", L + 1)])) (S5 h₀ L m news s [Str.ofString "ring"] [] fun m nw => ∃ (rg : Addr), m (Str.ofString "ring") = some (.ref rg) ∧ RingIn nw rg q n) E s := by
  obtain rfl : _ = st := Option.some.inj (hst : some _ = some st)
  obtain rfl : _ = scope := Option.some.inj (hsc : some _ = some scope)
  clear hst hsc
  obtain ⟨ps1, hP1, ht1⟩ := ht1
  obtain ⟨ps2, hP2, ht2⟩ := ht2
  revert X; k_fill; intro X
  obtain ⟨oq, mq, xq⟩ := hcq
  obtain ⟨on, mn, xn⟩ := hcn
  k_steps
  exact S5.sub (by k_asm) (by k_asm) (by intro p hp; k_mem) hP1 ht1 hP2 ht2 (fun z hz => m_one hz) hG rfl ⟨_, if_pos rfl, RingIn.mk' (by k_mem) (by k_mem)⟩
theorem walkOff44 : True := by
  w_top off
  trivial
theorem fold_pick (P : Int → Prop) [DecidablePred P] : ∀ (ks acc : List Int), ks.foldl (fun l k => if P k then l ++ [k] else l) acc = acc ++ ks.filter fun k => decide (P k)
  | [], acc => by simp
  | k :: ks, acc => by
    rw [List.foldl_cons, fold_pick P ks, List.filter_cons]
    by_cases h : P k
    · simp [h]
    · simp [h]
set_option maxHeartbeats 4000000 in
theorem zlw3 (st : Stmt) (hst : lawStmt? PySem.Challenge.rw_xy0002_05.row.toRowW.prog 3 = some st)
    (scope : Scope) (hsc : lawScope? PySem.Challenge.rw_xy0002_05.row.toRowW.prog = some scope)
    (w : World) (mean : ExcName → Option Value) (mg mb : Str → Option Value) (dp un : Nat) (gd : Option (List Code)) (a : Addr) (ccd : Value) (outer : List Env) (A₀ : Around) (base h₀ : Heap) (L : Addr) (m : Str → Option Value) (s : Shared) (E : Value → Shared → Prop) (news : Led)
    (sl : Addr) (svs : List Value) (sns : List Int)
    (B : Below A₀ base outer h₀) (hS : base.IsList sl svs.toArray) (X : (hd05.heap_39 w.params).In h₀) (T : Top topProg (looseW Mine05.view [] ++ (recsOf Mine05.view).map (·.name) ++ (litsOf Mine05.view).map (·.1) ++ (clssOf Mine05.view (looseW Mine05.view [])).map (·.name)) mean mg mb h₀) (hdp : dp + 100 < recursionLimit) (hun : un + 800 < cLine)
    (hsi : IntsAre svs sns) (hsb : ∀ x ∈ sns, Builtin.Int.intBits x ≤ 2 ^ 20) (hsl : sns.length ≤ 63)
    (hC1 : CodeHd h₀ 238 234) (hC2 : CodeHd h₀ 243 241) (ht1 : Tab 234 news) (ht2 : Tab 241 news) (hG : AllBare s.gens)
    (hm_s : m (Str.ofString "script") = some (.ref sl))
    (q : Int) (n : Nat) (tq tn : Tok) (hcq : Cell news (L+1) (some (.int q tq))) (hcn : Cell news (L+1+1) (some (.int (n : Int) tn))) (v0 : Option Value) (hcr : Cell news (L+1+1+1) v0) (hq : 2 ≤ q) (hq2 : q ≤ 256) (F : Fr h₀ L s.heap m) (N : News h₀ L s.heap news) :
    wpAny (model PySem.Challenge.rw_xy0002_05.row.toRowW.prog w) (ktrTop dp un gd (Str.ofString "law") scope L a ccd [(Str.ofString "e", L + 1 + 1 + 1 + 1 + 1 + 1 + 1 + 1 + 1 + 1 + 1 + 1), (Str.ofString "y", L + 1 + 1 + 1 + 1 + 1 + 1 + 1 + 1 + 1 + 1 + 1), (Str.ofString "x", L + 1 + 1 + 1 + 1 + 1 + 1 + 1 + 1 + 1 + 1), (Str.ofString "t", L + 1 + 1 + 1 + 1 + 1 + 1 + 1 + 1 + 1), (Str.ofString "m", L + 1 + 1 + 1 + 1 + 1 + 1 + 1 + 1), (Str.ofString "a", L + 1 + 1 + 1 + 1 + 1 + 1 + 1), (Str.ofString "row", L + 1 + 1 + 1 + 1 + 1 + 1), (Str.ofString "z", L + 1 + 1 + 1 + 1 + 1), (Str.ofString "vals", L + 1 + 1 + 1 + 1), (Str.ofString "roots", L + 1 + 1 + 1), (Str.ofString "n", L + 1 + 1), (Str.ofString "q", L + 1)] outer) (exec st (envX (Str.ofString "law") scope L a ccd [(Str.ofString "e", L + 1 + 1 + 1 + 1 + 1 + 1 + 1 + 1 + 1 + 1 + 1 + 1), (Str.ofString "y", L + 1 + 1 + 1 + 1 + 1 + 1 + 1 + 1 + 1 + 1 + 1), (Str.ofString "x", L + 1 + 1 + 1 + 1 + 1 + 1 + 1 + 1 + 1 + 1), (Str.ofString "t", L + 1 + 1 + 1 + 1 + 1 + 1 + 1 + 1 + 1), (Str.ofString "m", L + 1 + 1 + 1 + 1 + 1 + 1 + 1 + 1), (Str.ofString "a", L + 1 + 1 + 1 + 1 + 1 + 1 + 1), (Str.ofString "row", L + 1 + 1 + 1 + 1 + 1 + 1), (Str.ofString "z", L + 1 + 1 + 1 + 1 + 1), (Str.ofString "vals", L + 1 + 1 + 1 + 1), (Str.ofString "roots", L + 1 + 1 + 1), (Str.ofString "n", L + 1 + 1), (Str.ofString "q", L + 1)])) (S5 h₀ L m news s [] [(L+1+1+1)] fun _ nw => ∃ (lr : Addr) (vs : List Value) (k : Nat), Cell nw (L+1+1+1) (some (.ref lr)) ∧ (lr, W.listOf vs.toArray k) ∈ nw ∧ IntsAre vs (rootsF q n)) E s := by
  obtain rfl : _ = st := Option.some.inj (hst : some _ = some st)
  obtain rfl : _ = scope := Option.some.inj (hsc : some _ = some scope)
  clear hst hsc
  obtain ⟨ps1, hP1, ht1⟩ := ht1
  obtain ⟨ps2, hP2, ht2⟩ := ht2
  revert X; k_fill; intro X
  obtain ⟨oq, mq, xq⟩ := hcq
  obtain ⟨on, mn, xn⟩ := hcn
  obtain ⟨or, mr, xr⟩ := hcr
  refine wpAny_Assign_Name (LCt.ListComp_T F (by with_unfolding_all rfl) (by decide) (by rfl) (by decide) (by rfl) ?hi (by intro _; rfl)) (by with_unfolding_all rfl)
  refine Call_ (Name_function_global (by rfl) (by rfl) (loadGlobal_builtin (show Heap.Ns _ mainGlobals mg from T.g.keeps F.keep) (mg_none_of X T.g (by k_is)) (T.b.keeps F.keep) ((T.builtins "range" (by decide)).trans PyProof.Rows.boot_range) ?_))
  refine PyProof.Rows.callWith_type1 (args_cons (wpAny_Constant_int (args_cons (wpAny_Name (wpAny_loadName_cell (by rfl) (by rfl) (by rfl) ⟨_, (N _ mq).1, xq⟩ (args_nil ?_))))))
  refine range2_rows F N fun h1 tk1 t1 u1 v1 hr1 Fr1 Nr1 kr1 => ?_
  refine LCt.CompSrcT.range rfl Fr1 Nr1 hr1 (small_one (by omega) (by omega) (by omega) (by omega)) (n := (q - 1).toNat) (rangeSize_nat _ _) (by rw [PySem.sizeLine_eq]; omega) fun g1 => ?_
  refine kci_range (fun l k => if k ^ n % q = q - 1 then l ++ [k] else l) (fun k t I oI C oC D m₂ ys l h tk E' h0 h1 hI hC hx F' N' off ne mk => ?turn) ?fin ?grows
  case grows =>
    intro l k
    dsimp only
    split
    · simp
    · omega
  case turn =>
    have N9 := newsTail3 N'
    have hnC := hC.ns (N' _ (List.mem_cons_of_mem _ List.mem_cons_self)).1
    refine wpAny_isTrue_Compare1 ?_
    refine Call_ (Name_function_global (by rfl) (by rfl) (loadGlobal_builtin (show Heap.Ns _ mainGlobals mg from T.g.keeps F'.keep) (mg_none_of X T.g (by k_is)) (T.b.keeps F'.keep) ((T.builtins "pow" (by decide)).trans boot_pow) ?_))
    refine callWith_builtin1 (he := rfl) (hplain := rfl) (args_cons (wpAny_Name (wpAny_loadName_local (by rfl) (by rfl) hnC hx ?_)))
    refine args_cons (wpAny_Name (wpAny_loadName_cell (by rfl) (by rfl) (by rfl) ⟨_, (N9 _ mn).1, xn⟩ ?_))
    refine args_cons (wpAny_Name (wpAny_loadName_cell (by rfl) (by rfl) (by rfl) ⟨_, (N9 _ mq).1, xq⟩ (args_nil ?_)))
    refine call_pow3 (by omega) (by omega) ?_
    refine wpAny_BinOp (wpAny_Name (wpAny_loadName_cell (by rfl) (by rfl) (by rfl) ⟨_, (N9 _ mq).1, xq⟩ ?_))
    refine wpAny_Constant_int (PyProof.Rows.sub_int ?_)
    refine eq_int (wpAny_truthy_bool ?_)
    rw [Int.toNat_natCast]
    by_cases e9 : k ^ n % q = q - 1
    · simp only [e9, beq_self_eq_true, if_true]
      refine wpAny_Name (wpAny_loadName_local (by rfl) (by rfl) hnC hx ?_)
      exact LCg.CompEnd.intro F' N' news (fun p hp => hp) off trivial (kci_el rfl rfl rfl)
    · have e8 : (k ^ n % q == q - 1) = false := by simpa using e9
      rw [e8]
      simp only [e9, Bool.false_eq_true, if_false]
      exact LCg.CompEnd.intro F' N' news (fun p hp => hp) off trivial (kci_no rfl rfl)
  case fin =>
    intro ys hys _ D h tk F' N' off
    rw [fold_pick (fun k : Int => k ^ n % q = q - 1), List.nil_append] at hys
    k_steps
    exact S5.cell (by k_asm) (by with_reducible assumption) (by with_reducible assumption) (by intro p hp; k_mem) (List.mem_cons_of_mem _ mr) xr hP1 ht1 hP2 ht2 (fun _ _ => rfl) hG rfl (by assumption) fun hc => ⟨D, ys, _, hc, List.mem_cons_of_mem _ (mem_offP List.mem_cons_self (Ne.symm (off1_mem off _ mr))), hys⟩
theorem walkOff45 : True := by
  w_top off
  trivial
set_option maxHeartbeats 4000000 in
theorem zlw4 (st : Stmt) (hst : lawStmt? PySem.Challenge.rw_xy0002_05.row.toRowW.prog 4 = some st)
    (scope : Scope) (hsc : lawScope? PySem.Challenge.rw_xy0002_05.row.toRowW.prog = some scope)
    (w : World) (mean : ExcName → Option Value) (mg mb : Str → Option Value) (dp un : Nat) (gd : Option (List Code)) (a : Addr) (ccd : Value) (outer : List Env) (A₀ : Around) (base h₀ : Heap) (L : Addr) (m : Str → Option Value) (s : Shared) (E : Value → Shared → Prop) (news : Led)
    (sl : Addr) (svs : List Value) (sns : List Int)
    (B : Below A₀ base outer h₀) (hS : base.IsList sl svs.toArray) (X : (hd05.heap_39 w.params).In h₀) (T : Top topProg (looseW Mine05.view [] ++ (recsOf Mine05.view).map (·.name) ++ (litsOf Mine05.view).map (·.1) ++ (clssOf Mine05.view (looseW Mine05.view [])).map (·.name)) mean mg mb h₀) (hdp : dp + 100 < recursionLimit) (hun : un + 800 < cLine)
    (hsi : IntsAre svs sns) (hsb : ∀ x ∈ sns, Builtin.Int.intBits x ≤ 2 ^ 20) (hsl : sns.length ≤ 63)
    (hC1 : CodeHd h₀ 238 234) (hC2 : CodeHd h₀ 243 241) (ht1 : Tab 234 news) (ht2 : Tab 241 news) (hG : AllBare s.gens)
    (hm_s : m (Str.ofString "script") = some (.ref sl))
     (F : Fr h₀ L s.heap m) (N : News h₀ L s.heap news) :
    wpAny (model PySem.Challenge.rw_xy0002_05.row.toRowW.prog w) (ktrTop dp un gd (Str.ofString "law") scope L a ccd [(Str.ofString "e", L + 1 + 1 + 1 + 1 + 1 + 1 + 1 + 1 + 1 + 1 + 1 + 1), (Str.ofString "y", L + 1 + 1 + 1 + 1 + 1 + 1 + 1 + 1 + 1 + 1 + 1), (Str.ofString "x", L + 1 + 1 + 1 + 1 + 1 + 1 + 1 + 1 + 1 + 1), (Str.ofString "t", L + 1 + 1 + 1 + 1 + 1 + 1 + 1 + 1 + 1), (Str.ofString "m", L + 1 + 1 + 1 + 1 + 1 + 1 + 1 + 1), (Str.ofString "a", L + 1 + 1 + 1 + 1 + 1 + 1 + 1), (Str.ofString "row", L + 1 + 1 + 1 + 1 + 1 + 1), (Str.ofString "z", L + 1 + 1 + 1 + 1 + 1), (Str.ofString "vals", L + 1 + 1 + 1 + 1), (Str.ofString "roots", L + 1 + 1 + 1), (Str.ofString "n", L + 1 + 1), (Str.ofString "q", L + 1)] outer) (exec st (envX (Str.ofString "law") scope L a ccd [(Str.ofString "e", L + 1 + 1 + 1 + 1 + 1 + 1 + 1 + 1 + 1 + 1 + 1 + 1), (Str.ofString "y", L + 1 + 1 + 1 + 1 + 1 + 1 + 1 + 1 + 1 + 1 + 1), (Str.ofString "x", L + 1 + 1 + 1 + 1 + 1 + 1 + 1 + 1 + 1 + 1), (Str.ofString "t", L + 1 + 1 + 1 + 1 + 1 + 1 + 1 + 1 + 1), (Str.ofString "m", L + 1 + 1 + 1 + 1 + 1 + 1 + 1 + 1), (Str.ofString "a", L + 1 + 1 + 1 + 1 + 1 + 1 + 1), (Str.ofString "row", L + 1 + 1 + 1 + 1 + 1 + 1), (Str.ofString "z", L + 1 + 1 + 1 + 1 + 1), (Str.ofString "vals", L + 1 + 1 + 1 + 1), (Str.ofString "roots", L + 1 + 1 + 1), (Str.ofString "n", L + 1 + 1), (Str.ofString "q", L + 1)])) (S5 h₀ L m news s [Str.ofString "have"] [] fun m nw => ∃ (lh : Addr) (k : Nat), m (Str.ofString "have") = some (.ref lh) ∧ (lh, W.listOf [].toArray k) ∈ nw) E s := by
  obtain rfl : _ = st := Option.some.inj (hst : some _ = some st)
  obtain rfl : _ = scope := Option.some.inj (hsc : some _ = some scope)
  clear hst hsc
  obtain ⟨ps1, hP1, ht1⟩ := ht1
  obtain ⟨ps2, hP2, ht2⟩ := ht2
  revert X; k_fill; intro X
  k_steps
  exact S5.sub (by k_asm) (by k_asm) (by intro p hp; k_mem) hP1 ht1 hP2 ht2 (fun z hz => m_one hz) hG rfl ⟨_, _, if_pos rfl, List.mem_cons_self⟩
theorem walkOff46 : True := by
  w_top off
  trivial
set_option maxHeartbeats 4000000 in
theorem zlw5 (st : Stmt) (hst : lawStmt? PySem.Challenge.rw_xy0002_05.row.toRowW.prog 5 = some st)
    (scope : Scope) (hsc : lawScope? PySem.Challenge.rw_xy0002_05.row.toRowW.prog = some scope)
    (w : World) (mean : ExcName → Option Value) (mg mb : Str → Option Value) (dp un : Nat) (gd : Option (List Code)) (a : Addr) (ccd : Value) (outer : List Env) (A₀ : Around) (base h₀ : Heap) (L : Addr) (m : Str → Option Value) (s : Shared) (E : Value → Shared → Prop) (news : Led)
    (sl : Addr) (svs : List Value) (sns : List Int)
    (B : Below A₀ base outer h₀) (hS : base.IsList sl svs.toArray) (X : (hd05.heap_39 w.params).In h₀) (T : Top topProg (looseW Mine05.view [] ++ (recsOf Mine05.view).map (·.name) ++ (litsOf Mine05.view).map (·.1) ++ (clssOf Mine05.view (looseW Mine05.view [])).map (·.name)) mean mg mb h₀) (hdp : dp + 100 < recursionLimit) (hun : un + 800 < cLine)
    (hsi : IntsAre svs sns) (hsb : ∀ x ∈ sns, Builtin.Int.intBits x ≤ 2 ^ 20) (hsl : sns.length ≤ 63)
    (hC1 : CodeHd h₀ 238 234) (hC2 : CodeHd h₀ 243 241) (ht1 : Tab 234 news) (ht2 : Tab 241 news) (hG : AllBare s.gens)
    (hm_s : m (Str.ofString "script") = some (.ref sl))
    (v0 : Option Value) (hcq : Cell news (L+1+1+1+1) v0) (F : Fr h₀ L s.heap m) (N : News h₀ L s.heap news) :
    wpAny (model PySem.Challenge.rw_xy0002_05.row.toRowW.prog w) (ktrTop dp un gd (Str.ofString "law") scope L a ccd [(Str.ofString "e", L + 1 + 1 + 1 + 1 + 1 + 1 + 1 + 1 + 1 + 1 + 1 + 1), (Str.ofString "y", L + 1 + 1 + 1 + 1 + 1 + 1 + 1 + 1 + 1 + 1 + 1), (Str.ofString "x", L + 1 + 1 + 1 + 1 + 1 + 1 + 1 + 1 + 1 + 1), (Str.ofString "t", L + 1 + 1 + 1 + 1 + 1 + 1 + 1 + 1 + 1), (Str.ofString "m", L + 1 + 1 + 1 + 1 + 1 + 1 + 1 + 1), (Str.ofString "a", L + 1 + 1 + 1 + 1 + 1 + 1 + 1), (Str.ofString "row", L + 1 + 1 + 1 + 1 + 1 + 1), (Str.ofString "z", L + 1 + 1 + 1 + 1 + 1), (Str.ofString "vals", L + 1 + 1 + 1 + 1), (Str.ofString "roots", L + 1 + 1 + 1), (Str.ofString "n", L + 1 + 1), (Str.ofString "q", L + 1)] outer) (exec st (envX (Str.ofString "law") scope L a ccd [(Str.ofString "e", L + 1 + 1 + 1 + 1 + 1 + 1 + 1 + 1 + 1 + 1 + 1 + 1), (Str.ofString "y", L + 1 + 1 + 1 + 1 + 1 + 1 + 1 + 1 + 1 + 1 + 1), (Str.ofString "x", L + 1 + 1 + 1 + 1 + 1 + 1 + 1 + 1 + 1 + 1), (Str.ofString "t", L + 1 + 1 + 1 + 1 + 1 + 1 + 1 + 1 + 1), (Str.ofString "m", L + 1 + 1 + 1 + 1 + 1 + 1 + 1 + 1), (Str.ofString "a", L + 1 + 1 + 1 + 1 + 1 + 1 + 1), (Str.ofString "row", L + 1 + 1 + 1 + 1 + 1 + 1), (Str.ofString "z", L + 1 + 1 + 1 + 1 + 1), (Str.ofString "vals", L + 1 + 1 + 1 + 1), (Str.ofString "roots", L + 1 + 1 + 1), (Str.ofString "n", L + 1 + 1), (Str.ofString "q", L + 1)])) (S5 h₀ L m news s [] [(L+1+1+1+1)] fun _ nw => ∃ (lv : Addr) (k : Nat), Cell nw (L+1+1+1+1) (some (.ref lv)) ∧ (lv, W.listOf [].toArray k) ∈ nw ∧ ∀ p ∈ news, p.1 ≠ lv) E s := by
  obtain rfl : _ = st := Option.some.inj (hst : some _ = some st)
  obtain rfl : _ = scope := Option.some.inj (hsc : some _ = some scope)
  clear hst hsc
  obtain ⟨ps1, hP1, ht1⟩ := ht1
  obtain ⟨ps2, hP2, ht2⟩ := ht2
  revert X; k_fill; intro X
  obtain ⟨oc, mc, xc⟩ := hcq
  k_steps
  rename ∀ p : Addr × Obj, p ∈ news → p.fst < _ => hlt9
  refine S5.cell (by k_asm) (by with_reducible assumption) (by with_reducible assumption) (by intro p hp; k_mem) (List.mem_cons_of_mem _ mc) xc hP1 ht1 hP2 ht2 (fun _ _ => rfl) hG rfl (by assumption) fun hc => ⟨_, _, hc, List.mem_cons_of_mem _ (mem_offP List.mem_cons_self (Ne.symm (Nat.ne_of_lt (hlt9 _ mc)))), fun p hp => Nat.ne_of_lt (hlt9 p hp)⟩
theorem walkOff47 : True := by
  w_top off
  trivial
set_option maxHeartbeats 4000000 in
theorem zlp1 (st : Stmt) (hst : loopStmt? PySem.Challenge.rw_xy0002_05.row.toRowW.prog 6 0 = some st)
    (scope : Scope) (hsc : lawScope? PySem.Challenge.rw_xy0002_05.row.toRowW.prog = some scope)
    (w : World) (mean : ExcName → Option Value) (mg mb : Str → Option Value) (dp un : Nat) (gd : Option (List Code)) (a : Addr) (ccd : Value) (outer : List Env) (A₀ : Around) (base h₀ : Heap) (L : Addr) (m : Str → Option Value) (s : Shared) (E : Value → Shared → Prop) (news : Led)
    (sl : Addr) (svs : List Value) (sns : List Int)
    (B : Below A₀ base outer h₀) (hS : base.IsList sl svs.toArray) (X : (hd05.heap_39 w.params).In h₀) (T : Top topProg (looseW Mine05.view [] ++ (recsOf Mine05.view).map (·.name) ++ (litsOf Mine05.view).map (·.1) ++ (clssOf Mine05.view (looseW Mine05.view [])).map (·.name)) mean mg mb h₀) (hdp : dp + 100 < recursionLimit) (hun : un + 800 < cLine)
    (hsi : IntsAre svs sns) (hsb : ∀ x ∈ sns, Builtin.Int.intBits x ≤ 2 ^ 20) (hsl : sns.length ≤ 63)
    (hC1 : CodeHd h₀ 238 234) (hC2 : CodeHd h₀ 243 241) (ht1 : Tab 234 news) (ht2 : Tab 241 news) (hG : AllBare s.gens)
    (hm_s : m (Str.ofString "script") = some (.ref sl))
    (i : Nat) (ti : Tok) (hi3 : i < 3) (hm_i : m (Str.ofString "s") = some (.int (i : Int) ti)) (v0 : Option Value) (hca : Cell news (L+1+1+1+1+1) v0) (F : Fr h₀ L s.heap m) (N : News h₀ L s.heap news) :
    wpAny (model PySem.Challenge.rw_xy0002_05.row.toRowW.prog w) (ktrTop dp un gd (Str.ofString "law") scope L a ccd [(Str.ofString "e", L + 1 + 1 + 1 + 1 + 1 + 1 + 1 + 1 + 1 + 1 + 1 + 1), (Str.ofString "y", L + 1 + 1 + 1 + 1 + 1 + 1 + 1 + 1 + 1 + 1 + 1), (Str.ofString "x", L + 1 + 1 + 1 + 1 + 1 + 1 + 1 + 1 + 1 + 1), (Str.ofString "t", L + 1 + 1 + 1 + 1 + 1 + 1 + 1 + 1 + 1), (Str.ofString "m", L + 1 + 1 + 1 + 1 + 1 + 1 + 1 + 1), (Str.ofString "a", L + 1 + 1 + 1 + 1 + 1 + 1 + 1), (Str.ofString "row", L + 1 + 1 + 1 + 1 + 1 + 1), (Str.ofString "z", L + 1 + 1 + 1 + 1 + 1), (Str.ofString "vals", L + 1 + 1 + 1 + 1), (Str.ofString "roots", L + 1 + 1 + 1), (Str.ofString "n", L + 1 + 1), (Str.ofString "q", L + 1)] outer) (exec st (envX (Str.ofString "law") scope L a ccd [(Str.ofString "e", L + 1 + 1 + 1 + 1 + 1 + 1 + 1 + 1 + 1 + 1 + 1 + 1), (Str.ofString "y", L + 1 + 1 + 1 + 1 + 1 + 1 + 1 + 1 + 1 + 1 + 1), (Str.ofString "x", L + 1 + 1 + 1 + 1 + 1 + 1 + 1 + 1 + 1 + 1), (Str.ofString "t", L + 1 + 1 + 1 + 1 + 1 + 1 + 1 + 1 + 1), (Str.ofString "m", L + 1 + 1 + 1 + 1 + 1 + 1 + 1 + 1), (Str.ofString "a", L + 1 + 1 + 1 + 1 + 1 + 1 + 1), (Str.ofString "row", L + 1 + 1 + 1 + 1 + 1 + 1), (Str.ofString "z", L + 1 + 1 + 1 + 1 + 1), (Str.ofString "vals", L + 1 + 1 + 1 + 1), (Str.ofString "roots", L + 1 + 1 + 1), (Str.ofString "n", L + 1 + 1), (Str.ofString "q", L + 1)])) (S5 h₀ L m news s [] [(L+1+1+1+1+1)] fun _ nw => ∃ (x : Int) (t : Tok), Builtin.Int.intBits x ≤ 2 ^ 20 ∧ Cell nw (L+1+1+1+1+1) (some (.int x t))) E s := by
  obtain rfl : _ = st := Option.some.inj (hst : some _ = some st)
  obtain rfl : _ = scope := Option.some.inj (hsc : some _ = some scope)
  clear hst hsc
  obtain ⟨ps1, hP1, ht1⟩ := ht1
  obtain ⟨ps2, hP2, ht2⟩ := ht2
  revert X; k_fill; intro X
  obtain ⟨oc, mc, xc⟩ := hca
  k_steps
  refine S5.cell (by k_asm) (by with_reducible assumption) (by with_reducible assumption) (by intro p hp; k_mem) mc xc hP1 ht1 hP2 ht2 (fun _ _ => rfl) hG rfl (by assumption) fun hc => ⟨_, _, by assumption, hc⟩
theorem walkOff48 : True := by
  w_top off
  trivial
set_option maxHeartbeats 4000000 in
theorem zlp2 (st : Stmt) (hst : loopStmt? PySem.Challenge.rw_xy0002_05.row.toRowW.prog 6 1 = some st)
    (scope : Scope) (hsc : lawScope? PySem.Challenge.rw_xy0002_05.row.toRowW.prog = some scope)
    (w : World) (mean : ExcName → Option Value) (mg mb : Str → Option Value) (dp un : Nat) (gd : Option (List Code)) (a : Addr) (ccd : Value) (outer : List Env) (A₀ : Around) (base h₀ : Heap) (L : Addr) (m : Str → Option Value) (s : Shared) (E : Value → Shared → Prop) (news : Led)
    (sl : Addr) (svs : List Value) (sns : List Int)
    (B : Below A₀ base outer h₀) (hS : base.IsList sl svs.toArray) (X : (hd05.heap_39 w.params).In h₀) (T : Top topProg (looseW Mine05.view [] ++ (recsOf Mine05.view).map (·.name) ++ (litsOf Mine05.view).map (·.1) ++ (clssOf Mine05.view (looseW Mine05.view [])).map (·.name)) mean mg mb h₀) (hdp : dp + 100 < recursionLimit) (hun : un + 800 < cLine)
    (hsi : IntsAre svs sns) (hsb : ∀ x ∈ sns, Builtin.Int.intBits x ≤ 2 ^ 20) (hsl : sns.length ≤ 63)
    (hC1 : CodeHd h₀ 238 234) (hC2 : CodeHd h₀ 243 241) (ht1 : Tab 234 news) (ht2 : Tab 241 news) (hG : AllBare s.gens)
    (hm_s : m (Str.ofString "script") = some (.ref sl))
    (n : Nat) (tn : Tok) (hn : n ≤ 8) (hcn : Cell news (L+1+1) (some (.int (n : Int) tn))) (x : Int) (tx : Tok) (hbx : Builtin.Int.intBits x ≤ 2 ^ 20) (hcz : Cell news (L+1+1+1+1+1) (some (.int x tx))) (v0 : Option Value) (hcw : Cell news (L+1+1+1+1+1+1) v0) (F : Fr h₀ L s.heap m) (N : News h₀ L s.heap news) :
    wpAny (model PySem.Challenge.rw_xy0002_05.row.toRowW.prog w) (ktrTop dp un gd (Str.ofString "law") scope L a ccd [(Str.ofString "e", L + 1 + 1 + 1 + 1 + 1 + 1 + 1 + 1 + 1 + 1 + 1 + 1), (Str.ofString "y", L + 1 + 1 + 1 + 1 + 1 + 1 + 1 + 1 + 1 + 1 + 1), (Str.ofString "x", L + 1 + 1 + 1 + 1 + 1 + 1 + 1 + 1 + 1 + 1), (Str.ofString "t", L + 1 + 1 + 1 + 1 + 1 + 1 + 1 + 1 + 1), (Str.ofString "m", L + 1 + 1 + 1 + 1 + 1 + 1 + 1 + 1), (Str.ofString "a", L + 1 + 1 + 1 + 1 + 1 + 1 + 1), (Str.ofString "row", L + 1 + 1 + 1 + 1 + 1 + 1), (Str.ofString "z", L + 1 + 1 + 1 + 1 + 1), (Str.ofString "vals", L + 1 + 1 + 1 + 1), (Str.ofString "roots", L + 1 + 1 + 1), (Str.ofString "n", L + 1 + 1), (Str.ofString "q", L + 1)] outer) (exec st (envX (Str.ofString "law") scope L a ccd [(Str.ofString "e", L + 1 + 1 + 1 + 1 + 1 + 1 + 1 + 1 + 1 + 1 + 1 + 1), (Str.ofString "y", L + 1 + 1 + 1 + 1 + 1 + 1 + 1 + 1 + 1 + 1 + 1), (Str.ofString "x", L + 1 + 1 + 1 + 1 + 1 + 1 + 1 + 1 + 1 + 1), (Str.ofString "t", L + 1 + 1 + 1 + 1 + 1 + 1 + 1 + 1 + 1), (Str.ofString "m", L + 1 + 1 + 1 + 1 + 1 + 1 + 1 + 1), (Str.ofString "a", L + 1 + 1 + 1 + 1 + 1 + 1 + 1), (Str.ofString "row", L + 1 + 1 + 1 + 1 + 1 + 1), (Str.ofString "z", L + 1 + 1 + 1 + 1 + 1), (Str.ofString "vals", L + 1 + 1 + 1 + 1), (Str.ofString "roots", L + 1 + 1 + 1), (Str.ofString "n", L + 1 + 1), (Str.ofString "q", L + 1)])) (S5 h₀ L m news s [] [(L+1+1+1+1+1+1)] fun _ nw => ∃ (D : Addr) (ys : List Value), (D, LCg.lst ys) ∈ nw ∧ IntsAre ys ((List.range n).map fun (u : Nat) => x * ((u : Int) + 1) + (u : Int)) ∧ Cell nw (L+1+1+1+1+1+1) (some (.ref D))) E s := by
  obtain rfl : _ = st := Option.some.inj (hst : some _ = some st)
  obtain rfl : _ = scope := Option.some.inj (hsc : some _ = some scope)
  clear hst hsc
  obtain ⟨ps1, hP1, ht1⟩ := ht1
  obtain ⟨ps2, hP2, ht2⟩ := ht2
  revert X; k_fill; intro X
  obtain ⟨on, mn, xn⟩ := hcn
  obtain ⟨oz, mz, xz⟩ := hcz
  obtain ⟨ow, mw, xw⟩ := hcw
  refine wpAny_Assign_Name (ListComp_R5 (news := news) n (fun u => x * ((u : Int) + 1) + (u : Int)) (by omega) F (by with_unfolding_all rfl) (by decide) (by rfl) (by decide) (by rfl) (by intro _; rfl) rfl ?hi ?turn ?fin) (by with_unfolding_all rfl)
  case hi =>
    refine Call_ (Name_function_global (by rfl) (by rfl) (loadGlobal_builtin (show Heap.Ns _ mainGlobals mg from T.g.keeps F.keep) (mg_none_of X T.g (by k_is)) (T.b.keeps F.keep) ((T.builtins "range" (by decide)).trans PyProof.Rows.boot_range) ?_))
    refine PyProof.Rows.callWith_type1 (args_cons (wpAny_Name (wpAny_loadName_cell (by rfl) (by rfl) (by rfl) ⟨_, (N _ mn).1, xn⟩ (args_nil ?_))))
    exact range1_rows F N fun h1 tk1 t1 u1 v1 hr1 Fr1 Nr1 kr1 => ⟨_, _, _, _, _, _, rfl, rfl, Fr1, Nr1, hr1⟩
  case turn =>
    intro i t C oC m₂ h tk E' hi hC hx F' N'
    have N9 := newsTail N'
    have hnC := hC.ns (N' _ List.mem_cons_self).1
    refine wpAny_BinOp (wpAny_BinOp (wpAny_Name (wpAny_loadName_cell (by rfl) (by rfl) (by rfl) ⟨_, (N9 _ mz).1, xz⟩ ?_)))
    refine wpAny_BinOp (wpAny_Name (wpAny_loadName_local (by rfl) (by rfl) hnC hx ?_))
    refine wpAny_Constant_int (PyProof.Rows.add_int ?_)
    refine PyProof.Rows.mul_int (wpAny_Name (wpAny_loadName_local (by rfl) (by rfl) hnC hx ?_)) (mulOk_bd (Nat.le_trans hbx (by decide)) (bd_small (by omega) (by omega)))
    exact PyProof.Rows.add_int ⟨_, _, rfl, rfl⟩
  case fin =>
    intro D h tk ys F' N' iy off
    k_steps
    exact S5.cell (by k_asm) (by with_reducible assumption) (by with_reducible assumption) (by intro p hp; k_mem) (List.mem_cons_of_mem _ mw) xw hP1 ht1 hP2 ht2 (fun _ _ => rfl) hG rfl (by assumption) fun hc => ⟨D, ys, List.mem_cons_of_mem _ (mem_offP List.mem_cons_self (Ne.symm (off _ mw))), iy, hc⟩
theorem walkOff49 : True := by
  w_top off
  trivial
/-- where a statement ends that adds to one list -/
inductive SL5 (h₀ : Heap) (L : Addr) (m : Str → Option Value) (news : Led) (s : Shared) (l : Addr) (R : Led → Prop) (f : Flow) (s' : Shared) : Prop
  | mk (hf : f = .next) (nw : Led) (F : Fr h₀ L s'.heap m) (N : News h₀ L s'.heap nw) (hk : ∀ a o', (a, o') ∈ news → a ≠ l → (∀ ps, o' ≠ tabObj ps) → (a, o') ∈ nw) (t1 : Tab 234 nw) (t2 : Tab 241 nw) (G : AllBare s'.gens) (hos : s'.os = s.os) (r : R nw)
/-- a list that holds no row of numbers -/
def NoInts1 (vs : List Value) : Prop := ∀ ns : List Int, 1 ≤ ns.length → ¬ IntsAre vs ns
theorem lists_ne1 {vs ov : List Value} {k ok : Nat} {cs : List Int} (i : IntsAre vs cs) (hc : 1 ≤ cs.length) (hn : NoInts1 ov) : W.listOf vs.toArray k ≠ W.listOf ov.toArray ok := fun e => by
  have e1 : Data.seq vs.toArray k = Data.seq ov.toArray ok := congrArg Obj.data e
  injection e1 with e1 _
  obtain rfl : vs = ov := by simpa using congrArg Array.toList e1
  exact hn _ hc i
section
variable {prog : Program} {w : World} {A : Around} {E : Value → Shared → Prop} {s : Shared} {h₀ : Heap} {L : Addr} {m : Str → Option Value}
theorem append_L5 {l : Addr} {vs : List Value} {k : Nat} {v : Value} {Q : Value → Shared → Prop} {nw : Led} (F : Fr h₀ L s.heap m) (N : News h₀ L s.heap nw) (hm : (l, W.listOf vs.toArray k) ∈ nw) (hk : vs.length < 3)
    (h : ∀ h', Fr h₀ L h' m → News h₀ L h' ((l, W.listOf (vs ++ [v]).toArray (k + 1)) :: offP l nw) → Q .none { s with heap := h' }) : wpAny (model prog w) A (call (.builtin "list.append") [.ref l, v]) Q E s := by
  have z := N _ hm
  refine append_at (hsz := by rw [List.size_toArray, PySem.sizeLine_eq]; omega) z.1 fun h' hs e => h h' (F.change hs z.2.1 z.2.2) fun p hp => ?_
  rcases List.mem_cons.mp hp with rfl | hp
  · exact ⟨by rw [e]; simp [W.listOf], z.2⟩
  · have q := of_offP hp
    exact ⟨hs.extBut _ _ q.2 (N _ q.1).1, (N _ q.1).2⟩
end
set_option maxHeartbeats 4000000 in
theorem zlp3 (st : Stmt) (hst : loopStmt? PySem.Challenge.rw_xy0002_05.row.toRowW.prog 6 2 = some st)
    (scope : Scope) (hsc : lawScope? PySem.Challenge.rw_xy0002_05.row.toRowW.prog = some scope)
    (w : World) (mean : ExcName → Option Value) (mg mb : Str → Option Value) (dp un : Nat) (gd : Option (List Code)) (a : Addr) (ccd : Value) (outer : List Env) (A₀ : Around) (base h₀ : Heap) (L : Addr) (m : Str → Option Value) (s : Shared) (E : Value → Shared → Prop) (news : Led)
    (sl : Addr) (svs : List Value) (sns : List Int)
    (B : Below A₀ base outer h₀) (hS : base.IsList sl svs.toArray) (X : (hd05.heap_39 w.params).In h₀) (T : Top topProg (looseW Mine05.view [] ++ (recsOf Mine05.view).map (·.name) ++ (litsOf Mine05.view).map (·.1) ++ (clssOf Mine05.view (looseW Mine05.view [])).map (·.name)) mean mg mb h₀) (hdp : dp + 100 < recursionLimit) (hun : un + 800 < cLine)
    (hsi : IntsAre svs sns) (hsb : ∀ x ∈ sns, Builtin.Int.intBits x ≤ 2 ^ 20) (hsl : sns.length ≤ 63)
    (hC1 : CodeHd h₀ 238 234) (hC2 : CodeHd h₀ 243 241) (ht1 : Tab 234 news) (ht2 : Tab 241 news) (hG : AllBare s.gens)
    (hm_s : m (Str.ofString "script") = some (.ref sl))
    (q : Int) (n : Nat) (rg lh D : Addr) (hvs ys : List Value) (kh : Nat) (row : List Int) (h1n : 1 ≤ n) (hn : n ≤ 8) (hr : RingIn news rg q n) (hm_ring : m (Str.ofString "ring") = some (.ref rg)) (hm_h : m (Str.ofString "have") = some (.ref lh)) (mh : (lh, W.listOf hvs.toArray kh) ∈ news) (hlv : hvs.length < 3) (mD : (D, LCg.lst ys) ∈ news) (iD : IntsAre ys row) (hlr : row.length = n) (hrb : ∀ x ∈ row, Bd x) (hn1 : NoInts1 hvs) (hcw : Cell news (L+1+1+1+1+1+1) (some (.ref D))) (F : Fr h₀ L s.heap m) (N : News h₀ L s.heap news) :
    wpAny (model PySem.Challenge.rw_xy0002_05.row.toRowW.prog w) (ktrTop dp un gd (Str.ofString "law") scope L a ccd [(Str.ofString "e", L + 1 + 1 + 1 + 1 + 1 + 1 + 1 + 1 + 1 + 1 + 1 + 1), (Str.ofString "y", L + 1 + 1 + 1 + 1 + 1 + 1 + 1 + 1 + 1 + 1 + 1), (Str.ofString "x", L + 1 + 1 + 1 + 1 + 1 + 1 + 1 + 1 + 1 + 1), (Str.ofString "t", L + 1 + 1 + 1 + 1 + 1 + 1 + 1 + 1 + 1), (Str.ofString "m", L + 1 + 1 + 1 + 1 + 1 + 1 + 1 + 1), (Str.ofString "a", L + 1 + 1 + 1 + 1 + 1 + 1 + 1), (Str.ofString "row", L + 1 + 1 + 1 + 1 + 1 + 1), (Str.ofString "z", L + 1 + 1 + 1 + 1 + 1), (Str.ofString "vals", L + 1 + 1 + 1 + 1), (Str.ofString "roots", L + 1 + 1 + 1), (Str.ofString "n", L + 1 + 1), (Str.ofString "q", L + 1)] outer) (exec st (envX (Str.ofString "law") scope L a ccd [(Str.ofString "e", L + 1 + 1 + 1 + 1 + 1 + 1 + 1 + 1 + 1 + 1 + 1 + 1), (Str.ofString "y", L + 1 + 1 + 1 + 1 + 1 + 1 + 1 + 1 + 1 + 1 + 1), (Str.ofString "x", L + 1 + 1 + 1 + 1 + 1 + 1 + 1 + 1 + 1 + 1), (Str.ofString "t", L + 1 + 1 + 1 + 1 + 1 + 1 + 1 + 1 + 1), (Str.ofString "m", L + 1 + 1 + 1 + 1 + 1 + 1 + 1 + 1), (Str.ofString "a", L + 1 + 1 + 1 + 1 + 1 + 1 + 1), (Str.ofString "row", L + 1 + 1 + 1 + 1 + 1 + 1), (Str.ofString "z", L + 1 + 1 + 1 + 1 + 1), (Str.ofString "vals", L + 1 + 1 + 1 + 1), (Str.ofString "roots", L + 1 + 1 + 1), (Str.ofString "n", L + 1 + 1), (Str.ofString "q", L + 1)])) (SL5 h₀ L m news s lh fun nw => ∃ v k, (lh, W.listOf (hvs ++ [v]).toArray k) ∈ nw ∧ PolyIn nw v rg (row ++ List.replicate (n - row.length) 0)) E s := by
  obtain rfl : _ = st := Option.some.inj (hst : some _ = some st)
  obtain rfl : _ = scope := Option.some.inj (hsc : some _ = some scope)
  clear hst hsc
  obtain ⟨ps1, hP1, ht1⟩ := ht1
  obtain ⟨ps2, hP2, ht2⟩ := ht2
  revert X; k_fill; intro X
  refine RingIn.elim hr ?_
  clear hr
  intro dr h1r k1r h2r k2r tqr tnr cr hr1 hr2
  obtain ⟨ow, mw, xw⟩ := hcw
  have hin : ∀ {a o}, (a, o) ∈ news → o ≠ W.listOf hvs.toArray kh → (a, o) ∈ offP lh news := fun hm hn => mem_offP hm (ob_ne (N _ mh).1 (N _ hm).1 hn)
  have a1 := hin hr1 (by rintro ⟨⟩)
  have a2 := hin hr2 (cls_ne (c := .type "dict") (c' := .type "list") rfl rfl (by decide))
  have a3 := hin mw (by rintro rfl; cases xw)
  have a4 := hin mD (lists_ne1 iD (by omega) hn1)
  have hall : ∀ p ∈ offP lh news, p.1 ≠ lh := fun p hp => (of_offP hp).2
  have N₂ : News h₀ L s.heap ((lh, W.listOf hvs.toArray kh) :: offP lh news) := fun p hp => by
    rcases List.mem_cons.mp hp with rfl | hp
    · exact N _ mh
    · exact N _ (of_offP hp).1
  have hin9 : True → ∀ a o, (a, o) ∈ news → a ≠ lh → (a, o) ∈ offP lh news := fun _ a o hm hn => mem_offP hm hn
  have nP1 : True → (234 : Addr) ≠ lh := fun _ => ob_ne (N _ mh).1 (N _ hP1).1 (by rintro ⟨⟩)
  have nP2 : True → (241 : Addr) ≠ lh := fun _ => ob_ne (N _ mh).1 (N _ hP2).1 (by rintro ⟨⟩)
  clear N hin
  generalize offP lh news = rest at *
  k_steps
  have mh2 := S' _ List.mem_cons_self
  have up : ∀ a o v k', (a, o) ∈ news → a ≠ lh → (a, o) ∈ (lh, W.listOf (hvs ++ [v]).toArray k') :: offP lh nw' := fun a o _ _ hm hn => List.mem_cons_of_mem _ (mem_offP (S' _ (List.mem_cons_of_mem _ (hin9 trivial a o hm hn))) (hall _ (hin9 trivial a o hm hn)))
  refine append_L5 F' N' mh2 hlv fun h3 F3 N3 => ⟨rfl, _, F3, N3, fun a o hm hn _ => up a o _ _ hm hn, ⟨_, up _ _ _ _ hP1 (nP1 trivial), ht1⟩, ⟨_, up _ _ _ _ hP2 (nP2 trivial), ht2⟩, hG, rfl, _, _, List.mem_cons_self, ?_⟩
  have dn : ∀ {a o}, (a, o) ∈ nw' → o ≠ W.listOf hvs.toArray kh → a ≠ lh := fun hm hn => ob_ne (N' _ mh2).1 (N' _ hm).1 hn
  exact PolyIn.mk' (List.mem_cons_of_mem _ (mem_offP m1' (dn m1' (by rintro ⟨⟩)))) (List.mem_cons_of_mem _ (mem_offP m2' (dn m2' (cls_ne (c := .type "dict") (c' := .type "list") rfl rfl (by decide))))) (List.mem_cons_of_mem _ (mem_offP m3' (dn m3' (lists_ne1 i3' (by rw [List.length_append]; omega) hn1)))) i3'
theorem walkOff50 : True := by
  w_top off
  trivial
section
variable {M : Model} {A : Around} {E : Value → Shared → Prop} {s : Shared} {env : Env}
theorem callMeth1 {pos : Pos} {id : String} {first : List Value} {e : Expr} {rest : List Expr} {Q : Value → Shared → Prop}
    (h : wpAny M A (spliced (backTo pos (starEach (e :: rest) env))) (fun vs s₁ => wpAny M A (call (.builtin id) (first ++ vs)) Q E s₁) E s)
    (he : starEach (e :: rest) env = (false, eval e env) :: starEach rest env)
    (hplain : (backTo pos (starEach rest env)).any (·.1) = false) :
    wpAny M A (callWith pos (.builtin id) first (backTo pos (starEach (e :: rest) env)) []) Q E s := by
  rw [he] at h ⊢
  exact Calls.callWith_builtin (by show (false || (backTo pos (starEach rest env)).any (·.1)) = false; rw [hplain]; rfl) (Calls.evalArgs_plain h)
end
set_option maxHeartbeats 4000000 in
theorem zlp4 (st : Stmt) (hst : loopStmt? PySem.Challenge.rw_xy0002_05.row.toRowW.prog 6 3 = some st)
    (scope : Scope) (hsc : lawScope? PySem.Challenge.rw_xy0002_05.row.toRowW.prog = some scope)
    (w : World) (mean : ExcName → Option Value) (mg mb : Str → Option Value) (dp un : Nat) (gd : Option (List Code)) (a : Addr) (ccd : Value) (outer : List Env) (A₀ : Around) (base h₀ : Heap) (L : Addr) (m : Str → Option Value) (s : Shared) (E : Value → Shared → Prop) (news : Led)
    (sl : Addr) (svs : List Value) (sns : List Int)
    (B : Below A₀ base outer h₀) (hS : base.IsList sl svs.toArray) (X : (hd05.heap_39 w.params).In h₀) (T : Top topProg (looseW Mine05.view [] ++ (recsOf Mine05.view).map (·.name) ++ (litsOf Mine05.view).map (·.1) ++ (clssOf Mine05.view (looseW Mine05.view [])).map (·.name)) mean mg mb h₀) (hdp : dp + 100 < recursionLimit) (hun : un + 800 < cLine)
    (hsi : IntsAre svs sns) (hsb : ∀ x ∈ sns, Builtin.Int.intBits x ≤ 2 ^ 20) (hsl : sns.length ≤ 63)
    (hC1 : CodeHd h₀ 238 234) (hC2 : CodeHd h₀ 243 241) (ht1 : Tab 234 news) (ht2 : Tab 241 news) (hG : AllBare s.gens)
    (hm_s : m (Str.ofString "script") = some (.ref sl))
    (q : Int) (n : Nat) (lr lv D : Addr) (vsr wvs ys : List Value) (kr kv : Nat) (rs row : List Int) (tq : Tok) (h1n : 1 ≤ n) (hn : n ≤ 8) (hq : 2 ≤ q) (hq2 : q ≤ 256) (hcq : Cell news (L+1) (some (.int q tq))) (hcr : Cell news (L+1+1+1) (some (.ref lr))) (hcv : Cell news (L+1+1+1+1) (some (.ref lv))) (hcw : Cell news (L+1+1+1+1+1+1) (some (.ref D))) (mv9 : (lv, W.listOf wvs.toArray kv) ∈ news) (hlv : wvs.length < 3) (mD : (D, LCg.lst ys) ∈ news) (iD : IntsAre ys row) (hlr : row.length = n) (hrb : ∀ x ∈ row, Bd x) (hn1 : NoInts1 wvs) (hmr : (lr, W.listOf vsr.toArray kr) ∈ news) (hir : IntsAre vsr rs) (hrl : rs.length = n) (hrr : ∀ p ∈ rs, 0 < p ∧ p < q) (F : Fr h₀ L s.heap m) (N : News h₀ L s.heap news) :
    wpAny (model PySem.Challenge.rw_xy0002_05.row.toRowW.prog w) (ktrTop dp un gd (Str.ofString "law") scope L a ccd [(Str.ofString "e", L + 1 + 1 + 1 + 1 + 1 + 1 + 1 + 1 + 1 + 1 + 1 + 1), (Str.ofString "y", L + 1 + 1 + 1 + 1 + 1 + 1 + 1 + 1 + 1 + 1 + 1), (Str.ofString "x", L + 1 + 1 + 1 + 1 + 1 + 1 + 1 + 1 + 1 + 1), (Str.ofString "t", L + 1 + 1 + 1 + 1 + 1 + 1 + 1 + 1 + 1), (Str.ofString "m", L + 1 + 1 + 1 + 1 + 1 + 1 + 1 + 1), (Str.ofString "a", L + 1 + 1 + 1 + 1 + 1 + 1 + 1), (Str.ofString "row", L + 1 + 1 + 1 + 1 + 1 + 1), (Str.ofString "z", L + 1 + 1 + 1 + 1 + 1), (Str.ofString "vals", L + 1 + 1 + 1 + 1), (Str.ofString "roots", L + 1 + 1 + 1), (Str.ofString "n", L + 1 + 1), (Str.ofString "q", L + 1)] outer) (exec st (envX (Str.ofString "law") scope L a ccd [(Str.ofString "e", L + 1 + 1 + 1 + 1 + 1 + 1 + 1 + 1 + 1 + 1 + 1 + 1), (Str.ofString "y", L + 1 + 1 + 1 + 1 + 1 + 1 + 1 + 1 + 1 + 1 + 1), (Str.ofString "x", L + 1 + 1 + 1 + 1 + 1 + 1 + 1 + 1 + 1 + 1), (Str.ofString "t", L + 1 + 1 + 1 + 1 + 1 + 1 + 1 + 1 + 1), (Str.ofString "m", L + 1 + 1 + 1 + 1 + 1 + 1 + 1 + 1), (Str.ofString "a", L + 1 + 1 + 1 + 1 + 1 + 1 + 1), (Str.ofString "row", L + 1 + 1 + 1 + 1 + 1 + 1), (Str.ofString "z", L + 1 + 1 + 1 + 1 + 1), (Str.ofString "vals", L + 1 + 1 + 1 + 1), (Str.ofString "roots", L + 1 + 1 + 1), (Str.ofString "n", L + 1 + 1), (Str.ofString "q", L + 1)])) (SL5 h₀ L m news s lv fun nw => ∃ D k, (lv, W.listOf (wvs ++ [Value.ref D]).toArray k) ∈ nw ∧ ListIn nw (.ref D) (rs.map fun p => Int.fmod (preSum (fun i => row.getD i 0 * p ^ i) row.length) q)) E s := by
  obtain rfl : _ = st := Option.some.inj (hst : some _ = some st)
  obtain rfl : _ = scope := Option.some.inj (hsc : some _ = some scope)
  clear hst hsc
  obtain ⟨ps1, hP1, ht1⟩ := ht1
  obtain ⟨ps2, hP2, ht2⟩ := ht2
  revert X; k_fill; intro X
  obtain ⟨oq, mq, xq⟩ := hcq
  obtain ⟨or, mr, xr⟩ := hcr
  obtain ⟨ov, mv, xv⟩ := hcv
  obtain ⟨ow, mw, xw⟩ := hcw
  refine wpAny_Expr_any (MethodCall_ (wpAny_Name (wpAny_loadName_cell (by rfl) (by rfl) (by rfl) ⟨_, (N _ mv).1, xv⟩ (getMethod_list_append (N _ mv9).1 rfl rfl ?_))))
  refine callMeth1 (args_cons ?_) rfl rfl
  refine ListComp_G (h₀ := h₀) (L := L) (m := m) F (by with_unfolding_all rfl) (by decide) (by rfl) (by decide) (by rfl) ?hi (by intro _; rfl)
  case hi =>
    refine wpAny_Name (wpAny_loadName_cell (by rfl) (by rfl) (by rfl) ⟨_, (N _ mr).1, xr⟩ ?_)
    refine CSrcG.mk lr vsr.toArray kr news (fun i ys nw => IntsAre ys ((rs.take i).map fun p => Int.fmod (preSum (fun i => row.getD i 0 * p ^ i) row.length) q) ∧ (∀ p ∈ news, p.1 ≠ 234 → p ∈ nw) ∧ ∃ ps, (234, tabObj ps) ∈ nw ∧ TriplesOk ps.toList) rfl rfl F N hmr (by rw [List.size_toArray, hir.length, PySem.sizeLine_eq]; omega) hG ⟨.nil, fun p hp _ => hp, ps1, hP1, ht1⟩ ?turn ?fin
    case turn =>
      intro i v9 I oI C oC D9 ys9 nw s' E' hi hv9 hR hm9 hC9 F' N' off hnt G' hos
      obtain ⟨hI9, hsub, ps9, hP9, ht9⟩ := hR
      obtain ⟨m9, hC9, hx9⟩ := hC9
      have N9 := newsTail3 N'
      have hnC := hC9.ns (N' _ (List.mem_cons_of_mem _ List.mem_cons_self)).1
      have hirs : i < rs.length := by rw [List.size_toArray, hir.length] at hi; exact hi
      obtain ⟨tp, hp9⟩ := ints_getD hir hirs
      obtain rfl : v9 = .int (rs.getD i 0) tp := Option.some.inj (hv9.symm.trans (by rw [List.getElem?_toArray]; exact hp9))
      have hb9 := getD_all hrr hirs
      have kk : ∀ {a o}, (a, o) ∈ news → (∀ ps, o ≠ tabObj ps) → (a, o) ∈ nw := fun h hn => hsub _ h (ob_ne (N _ hP1).1 (N _ h).1 (hn _))
      have qq := kk mq (fun _ => cell_neT xq)
      have qw := kk mw (fun _ => cell_neT xw)
      have ql := kk mD (fun _ => list_neT)
      refine Call_ (LCgL.ld_global F' X T (by k_is) ?_)
      refine callWith_K X (by k_is) ?_ (he := rfl) (hplain := rfl)
      refine args_cons (wpAny_Name (wpAny_loadName_cell (by rfl) (by rfl) (by rfl) ⟨_, (N9 _ qw).1, xw⟩ ?_))
      refine args_cons (wpAny_Name (wpAny_loadName_local (by rfl) (by rfl) hnC hx9 ?_))
      refine args_cons (wpAny_Name (wpAny_loadName_cell (by rfl) (by rfl) (by rfl) ⟨_, (N9 _ qq).1, xq⟩ (args_nil ?_)))
      refine ⟨by k_in, wpAny_call ?_⟩
      refine SpecT.use (value_spec w mean mg mb _ (.ref D) row (rs.getD i 0) q tp tq ⟨D, ys, _, rfl, mem3 ql, iD⟩ (by omega) hrb hb9.1 (by omega) (by omega)) B F' X N' (mem3 hP9) ht9 hC1 G' T rfl (by omega) (by omega) fun r ps' nw3 s3 F3 N3 hs3 hP3 ht3 G3 hos3 hr3 => ?_
      obtain ⟨t3, rfl⟩ := hr3
      have hPn := off _ hP9
      refine TEnd.mk ((234, tabObj ps') :: offP 234 nw) nw3 F3 N3 (hs3 _ List.mem_cons_self (Ne.symm hPn.1)) (hs3 _ (List.mem_cons_of_mem _ List.mem_cons_self) (Ne.symm hPn.2.1)) (hs3 _ (List.mem_cons_of_mem _ (List.mem_cons_of_mem _ List.mem_cons_self)) (Ne.symm hPn.2.2)) (fun p hp => ?_) (fun p hp => ?_) G3 (hos3.trans hos) ⟨List.mem_cons_of_mem _ (mem_offP hm9 (ob_ne (N9 _ hP9).1 (N9 _ hm9).1 list_neT)), ?_, fun p hp hne => List.mem_cons_of_mem _ (mem_offP (hsub p hp hne) hne), ps', List.mem_cons_self, ht3⟩
      · rcases List.mem_cons.mp hp with rfl | hp
        · exact hP3
        · exact hs3 _ (mem3 (of_offP hp).1) (of_offP hp).2
      · rcases List.mem_cons.mp hp with rfl | hp
        · exact hPn
        · exact off _ (of_offP hp).1
      · rw [List.take_add_one, List.getElem?_eq_getElem hirs]
        have e9 : rs.getD i 0 = rs[i] := by simp [hirs]
        rw [← e9]
        simpa using IntsAre.append hI9 (.cons _ t3 .nil)
    case fin =>
      intro ys9 nw hR D9 s' F' N' off G' hos
      obtain ⟨hI9, hsub, ps9, hP9, ht9⟩ := hR
      rw [List.take_of_length_le (by rw [List.size_toArray, hir.length]; exact Nat.le_refl _)] at hI9
      have kv9 := hsub _ mv9 (ob_ne (N _ hP1).1 (N _ mv9).1 list_neT)
      have N9 := newsTail N'
      refine args_nil ?_
      have hne : ∀ {a o}, (a, o) ∈ nw → o ≠ W.listOf wvs.toArray kv → a ≠ lv := fun hm hn => ob_ne (N9 _ kv9).1 (N9 _ hm).1 hn
      have up : ∀ a o v k', (a, o) ∈ nw → a ≠ lv → (a, o) ∈ (lv, W.listOf (wvs ++ [v]).toArray k') :: offP lv ((D9, LCg.lst ys9) :: nw) := fun a o _ _ hm hn => List.mem_cons_of_mem _ (mem_offP (List.mem_cons_of_mem _ hm) hn)
      refine append_L5 F' N' (List.mem_cons_of_mem _ kv9) hlv fun h3 F3 N3 => ⟨rfl, _, F3, N3, fun a o hm hn hnt => up a o _ _ (hsub _ hm (ob_ne (N _ hP1).1 (N _ hm).1 (hnt _))) hn, ⟨_, up _ _ _ _ hP9 (hne hP9 (by rintro ⟨⟩)), ht9⟩, ⟨_, up _ _ _ _ (hsub _ hP2 (show (241 : Addr) ≠ 234 by decide)) (hne (hsub _ hP2 (show (241 : Addr) ≠ 234 by decide)) (by rintro ⟨⟩)), ht2⟩, G', hos, D9, _, List.mem_cons_self, ⟨D9, ys9, _, rfl, List.mem_cons_of_mem _ (mem_offP List.mem_cons_self (Ne.symm (off _ kv9))), hI9⟩⟩
end
section
local macro_rules | `(tactic| walk_at "loadName") => `(tactic| (k_here; k_dflt (refine' loadName_L ?F ?v ?_ ?a ?b; (case F => k_asm); (case a => rfl); (case b => rfl); (case v => assumption); k_whole)))
section
local macro_rules | `(tactic| walk_at "no such step") => `(tactic| fail "no such step")
theorem walkOff51 : True := by
  w_top off
  trivial
set_option maxHeartbeats 4000000 in
theorem ybr8 (st : List Stmt) (hst : (loopStmt? PySem.Challenge.rw_xy0002_05.row.toRowW.prog 7 10).bind (ifBody? 8) = some st)
    (scope : Scope) (hsc : lawScope? PySem.Challenge.rw_xy0002_05.row.toRowW.prog = some scope)
    (w : World) (mean : ExcName → Option Value) (mg mb : Str → Option Value) (dp un : Nat) (gd : Option (List Code)) (a : Addr) (ccd : Value) (outer : List Env) (A₀ : Around) (base h₀ : Heap) (L : Addr) (m : Str → Option Value) (s : Shared) (E : Value → Shared → Prop) (news : Led)
    (sl rg lr lh lv : Addr) (n : Nat) (q : Int) (tn tq : Tok) (svs vsr : List Value) (sns rs : List Int) (kr : Nat)
    (B : Below A₀ base outer h₀) (hS : base.IsList sl svs.toArray) (X : (hd05.heap_39 w.params).In h₀) (T : Top topProg (looseW Mine05.view [] ++ (recsOf Mine05.view).map (·.name) ++ (litsOf Mine05.view).map (·.1) ++ (clssOf Mine05.view (looseW Mine05.view [])).map (·.name)) mean mg mb h₀) (hdp : dp + 100 < recursionLimit) (hun : un + 800 < cLine)
    (hsi : IntsAre svs sns) (hsb : ∀ x ∈ sns, Builtin.Int.intBits x ≤ 2 ^ 20) (hsl : sns.length ≤ 63)
    (hC1 : CodeHd h₀ 238 234) (hC2 : CodeHd h₀ 243 241) (ht1 : Tab 234 news) (ht2 : Tab 241 news) (hG : AllBare s.gens)
    (hcq : Cell news (L+1) (some (.int q tq))) (hcn : Cell news (L+1+1) (some (.int (n : Int) tn))) (hcr : Cell news (L+1+1+1) (some (.ref lr))) (hcv : Cell news (L+1+1+1+1) (some (.ref lv)))
    (h1n : 1 ≤ n) (hn : n ≤ 8) (hq : 2 ≤ q) (hq2 : q ≤ 256) (hro : RootsOk q n rs) (hr : RingIn news rg q n) (hmr : (lr, W.listOf vsr.toArray kr) ∈ news) (hir : IntsAre vsr rs)
    (hm_s : m (Str.ofString "script") = some (.ref sl)) (hm_r : m (Str.ofString "ring") = some (.ref rg)) (hm_h : m (Str.ofString "have") = some (.ref lh))

    (vf vg : Value) (fcs gcs xs ys : List Int) (hm_f : m (Str.ofString "f") = some vf) (hm_g : m (Str.ofString "g") = some vg) (pf : PolyIn news vf rg fcs) (pg : PolyIn news vg rg gcs) (wx wy : Value) (lx : ListIn news wx xs) (ly : ListIn news wy ys) (hcx : Cell news (L+1+1+1+1+1+1+1+1+1+1) (some wx)) (hcy : Cell news (L+1+1+1+1+1+1+1+1+1+1+1) (some wy)) (evf : Ev q n rs fcs xs) (evg : Ev q n rs gcs ys) (xm : Int) (tm : Tok) (hbm : Builtin.Int.intBits xm ≤ 2 ^ 20) (hcm : Cell news (L+1+1+1+1+1+1+1+1) (some (.int xm tm)))
    (F : Fr h₀ L s.heap m) (N : News h₀ L s.heap news) :
    wpAny (model PySem.Challenge.rw_xy0002_05.row.toRowW.prog w) (ktrTop dp un gd (Str.ofString "law") scope L a ccd [(Str.ofString "e", L + 1 + 1 + 1 + 1 + 1 + 1 + 1 + 1 + 1 + 1 + 1 + 1), (Str.ofString "y", L + 1 + 1 + 1 + 1 + 1 + 1 + 1 + 1 + 1 + 1 + 1), (Str.ofString "x", L + 1 + 1 + 1 + 1 + 1 + 1 + 1 + 1 + 1 + 1), (Str.ofString "t", L + 1 + 1 + 1 + 1 + 1 + 1 + 1 + 1 + 1), (Str.ofString "m", L + 1 + 1 + 1 + 1 + 1 + 1 + 1 + 1), (Str.ofString "a", L + 1 + 1 + 1 + 1 + 1 + 1 + 1), (Str.ofString "row", L + 1 + 1 + 1 + 1 + 1 + 1), (Str.ofString "z", L + 1 + 1 + 1 + 1 + 1), (Str.ofString "vals", L + 1 + 1 + 1 + 1), (Str.ofString "roots", L + 1 + 1 + 1), (Str.ofString "n", L + 1 + 1), (Str.ofString "q", L + 1)] outer) (execs st (envX (Str.ofString "law") scope L a ccd [(Str.ofString "e", L + 1 + 1 + 1 + 1 + 1 + 1 + 1 + 1 + 1 + 1 + 1 + 1), (Str.ofString "y", L + 1 + 1 + 1 + 1 + 1 + 1 + 1 + 1 + 1 + 1 + 1), (Str.ofString "x", L + 1 + 1 + 1 + 1 + 1 + 1 + 1 + 1 + 1 + 1), (Str.ofString "t", L + 1 + 1 + 1 + 1 + 1 + 1 + 1 + 1 + 1), (Str.ofString "m", L + 1 + 1 + 1 + 1 + 1 + 1 + 1 + 1), (Str.ofString "a", L + 1 + 1 + 1 + 1 + 1 + 1 + 1), (Str.ofString "row", L + 1 + 1 + 1 + 1 + 1 + 1), (Str.ofString "z", L + 1 + 1 + 1 + 1 + 1), (Str.ofString "vals", L + 1 + 1 + 1 + 1), (Str.ofString "roots", L + 1 + 1 + 1), (Str.ofString "n", L + 1 + 1), (Str.ofString "q", L + 1)])) (S5 h₀ L m news s [Str.ofString "new", Str.ofString "val"] [(L+1+1+1+1+1+1), (L+1+1+1+1+1+1+1+1+1+1+1+1)] (NV (Ev q n rs) rg)) E s := by
  obtain rfl : _ = st := Option.some.inj (hst : some _ = some st)
  obtain rfl : _ = scope := Option.some.inj (hsc : some _ = some scope)
  clear hst hsc
  refine RingIn.elim hr ?_
  clear hr
  intro dr h1r k1r h2r k2r tqr tnr cr hr1 hr2
  obtain ⟨ps1, hP1, ht1⟩ := ht1
  obtain ⟨ps2, hP2, ht2⟩ := ht2
  obtain ⟨oq, mq, xq⟩ := hcq
  obtain ⟨on, mn, xn⟩ := hcn
  obtain ⟨or, mr, xr⟩ := hcr
  obtain ⟨ov, mv, xv⟩ := hcv
  have hlr : rs.length = n := hro.len
  revert X; k_fill; intro X

  have hlf := evf.len
  have hlg := evg.len
  have hlx := evf.lenx hro
  have hly := evg.lenx hro
  have hbf := evf.bd
  have hbg := evg.bd
  refine step_S5 (h₀ := h₀) (L := L) (m := m) (news := news) (names := [Str.ofString "new"]) (cs := [(L+1+1+1+1+1+1), (L+1+1+1+1+1+1+1+1+1+1+1+1)]) (R := fun m' nw => ∃ v, m' (Str.ofString "new") = some v ∧ PolyIn nw v rg (fcs)) ?_ ?_
  · skip
    obtain ⟨f, df, h3, k3, h4, k4, l, vs, k, cf, rfl, hp1, hp2, hp3, hi⟩ := pf
    k_steps
    exact S5.sub (by k_asm) (by k_asm) (by intro p hp; k_mem) hP1 ht1 hP2 ht2 (fun z hz => m_one hz) hG rfl ⟨_, if_pos rfl, PolyIn.mk' (by k_mem) (by k_mem) (by k_mem) (by assumption)⟩
  · skip
    intro m1 nw s1 F1 N1 hk hc t1 t2 hm1 G1 hos1 hr1'
    obtain ⟨v, hv, pv⟩ := hr1'
    have hmg1 : m1 (Str.ofString "g") = some vg := (hm1 _ (by decide)).trans hm_g
    clear F N hm_f hm_g
    obtain ⟨dr, h1r, k1r, h2r, k2r, tqr, tnr, cr, hr1, hr2⟩ := RingIn.k5 (RingIn.mk' hr1 hr2) hk
    replace pf := pf.k5 hk
    replace pg := pg.k5 hk
    replace lx := lx.k5 hk
    replace ly := ly.k5 hk
    replace hcx := hc _ _ (offE 10 rfl rfl) hcx
    replace hcy := hc _ _ (offE 11 rfl rfl) hcy
    replace hcm := hc _ _ (offE 8 rfl rfl) hcm
    obtain ⟨ps1, hP1, ht1⟩ := t1
    obtain ⟨ps2, hP2, ht2⟩ := t2
    refine step_S5 (h₀ := h₀) (L := L) (m := m1) (news := nw) (names := [Str.ofString "new"]) (cs := [(L+1+1+1+1+1+1), (L+1+1+1+1+1+1+1+1+1+1+1+1)]) (R := fun m' nw => ∃ v, m' (Str.ofString "new") = some v ∧ PolyIn nw v rg (mulq q n fcs gcs)) ?_ ?_
    · skip
      obtain ⟨f9, df, h3, k3, h4, k4, l, vs, k, cf, rfl, hp1, hp2, hp3, hi⟩ := pv
      obtain ⟨f', df', h3', k3', h4', k4', l', vs', k', cf', rfl, hp1', hp2', hp3', hi'⟩ := pg
      k_steps
      exact S5.sub (by k_asm) (by k_asm) (by intro p hp; k_mem) hP1 ht1 hP2 ht2 (fun z hz => m_one hz) G1 rfl ⟨_, if_pos rfl, PolyIn.mk' (by k_mem) (by k_mem) (by k_mem) (by assumption)⟩
    intro m2 nw2 s2 F2 N2 hk2 hc2 t1 t2 hm2 G2 hos2 hr2'
    replace hk := hk.trans hk2
    replace hc := hc.trans hc2
    replace hm1 := fun z hz => (hm2 z hz).trans (hm1 z hz)
    replace hos1 := hos2.trans hos1
    clear F1 N1
    obtain ⟨v, hv, pv⟩ := hr2'
    obtain ⟨l1, vs1, k1, rfl, ml1, il1⟩ := lx.k5 hk2
    obtain ⟨l2, vs2, k2, rfl, ml2, il2⟩ := ly.k5 hk2
    obtain ⟨on, mn, xn⟩ := hc _ _ (offE 2 rfl rfl) ⟨on, mn, xn⟩
    obtain ⟨oq, mq, xq⟩ := hc _ _ (offE 1 rfl rfl) ⟨oq, mq, xq⟩
    obtain ⟨ox, mx, xx⟩ := hc2 _ _ (offE 10 rfl rfl) hcx
    obtain ⟨oy, my, xy⟩ := hc2 _ _ (offE 11 rfl rfl) hcy
    refine wpAny_execs_cons (Assign_R5 (news := nw2) n (fun s => Int.fmod (xs.getD s 0 * ys.getD s 0) q) (by omega) F2 (by with_unfolding_all rfl) (by with_unfolding_all rfl) (by decide) (by rfl) (by decide) (by rfl) (by rfl) (by rfl) (by intro _; rfl) rfl ?hi ?turn ?fin)
    case hi =>
      refine Call_ (Name_function_global (by rfl) (by rfl) (loadGlobal_builtin (show Heap.Ns _ mainGlobals mg from T.g.keeps F2.keep) (mg_none_of X T.g (by k_is)) (T.b.keeps F2.keep) ((T.builtins "range" (by decide)).trans PyProof.Rows.boot_range) ?_))
      refine PyProof.Rows.callWith_type1 (args_cons (wpAny_Name (wpAny_loadName_cell (by rfl) (by rfl) (by rfl) ⟨_, (N2 _ mn).1, xn⟩ (args_nil ?_))))
      exact range1_rows F2 N2 fun h1 tk1 t1 u1 v1 hr1 Fr1 Nr1 kr1 => ⟨_, _, _, _, _, _, rfl, rfl, Fr1, Nr1, hr1⟩
    case turn =>
      intro i t C oC m₂ h tk E' hi hC hx F' N'
      have N9 := newsTail N'
      have hnC := hC.ns (N' _ List.mem_cons_self).1
      obtain ⟨tha, ha⟩ := ints_getD il1 (i := i) (by omega)
      refine wpAny_BinOp (wpAny_BinOp (Subscript_ (wpAny_Name (wpAny_loadName_cell (by rfl) (by rfl) (by rfl) ⟨_, (N9 _ mx).1, xx⟩ (wpAny_Name (wpAny_loadName_local (by rfl) (by rfl) hnC hx ?_))))))
      refine item_L N9 ml1 ha (by omega) ?_
      obtain ⟨thb, hb⟩ := ints_getD il2 (i := i) (by omega)
      refine Subscript_ (wpAny_Name (wpAny_loadName_cell (by rfl) (by rfl) (by rfl) ⟨_, (N9 _ my).1, xy⟩ (wpAny_Name (wpAny_loadName_local (by rfl) (by rfl) hnC hx ?_))))
      refine item_L N9 ml2 hb (by omega) ?_
      refine PyProof.Rows.mul_int ?_ (mulOk_bd (bd_getD (bd_rng hq2 (evf.rng (by omega))) _) (bd_getD (bd_rng hq2 (evg.rng (by omega))) _))
      refine wpAny_Name (wpAny_loadName_cell (by rfl) (by rfl) (by rfl) ⟨_, (N9 _ mq).1, xq⟩ ?_)
      refine PyProof.Rows.mod_int (by omega) ?_
      exact ⟨_, _, rfl, rfl⟩
    case fin =>
      intro D h tk zs F' N' iz
      refine wpAny_execs_nil ?_
      refine S5.two hk hc t1 t2 F' N' (fun p hp => List.mem_cons_of_mem _ hp) (fun z hz => (if_neg (cont2 hz).2).trans (hm1 z (cont2 hz).1)) G2 hos1 ?_
      exact ⟨_, _, _, _, (if_neg (by decide)).trans hv, if_pos rfl, pv.mono (fun p hp => List.mem_cons_of_mem _ hp), ⟨_, _, _, rfl, List.mem_cons_self, iz⟩, ev_mul hro h1n hq hq2 evf evg⟩
end
end
section
local macro_rules | `(tactic| walk_at "call ref") => `(tactic| (k_here; (with_reducible show wpAny _ _ (call (Value.ref 49) _) _ _ _); k_dflt (refine wpAny_call ?_; refine' Spec.use (gen_spec _ _ _ _ _ _ _ _ ?zhr ?zh1n ?zhn) ?zB ?zF ?zX ?zN ?zT ?zhk ?zhd ?zhu ?_; walk_at "@c"); k_dflt (walk_at "@pn"); walk_at "@e"))
theorem walkOff52 : True := by
  w_top off
  trivial
set_option maxHeartbeats 4000000 in
theorem ybr10 (st : List Stmt) (hst : (loopStmt? PySem.Challenge.rw_xy0002_05.row.toRowW.prog 7 10).bind (ifBody? 10) = some st)
    (scope : Scope) (hsc : lawScope? PySem.Challenge.rw_xy0002_05.row.toRowW.prog = some scope)
    (w : World) (mean : ExcName → Option Value) (mg mb : Str → Option Value) (dp un : Nat) (gd : Option (List Code)) (a : Addr) (ccd : Value) (outer : List Env) (A₀ : Around) (base h₀ : Heap) (L : Addr) (m : Str → Option Value) (s : Shared) (E : Value → Shared → Prop) (news : Led)
    (sl rg lr lh lv : Addr) (n : Nat) (q : Int) (tn tq : Tok) (svs vsr : List Value) (sns rs : List Int) (kr : Nat)
    (B : Below A₀ base outer h₀) (hS : base.IsList sl svs.toArray) (X : (hd05.heap_39 w.params).In h₀) (T : Top topProg (looseW Mine05.view [] ++ (recsOf Mine05.view).map (·.name) ++ (litsOf Mine05.view).map (·.1) ++ (clssOf Mine05.view (looseW Mine05.view [])).map (·.name)) mean mg mb h₀) (hdp : dp + 100 < recursionLimit) (hun : un + 800 < cLine)
    (hsi : IntsAre svs sns) (hsb : ∀ x ∈ sns, Builtin.Int.intBits x ≤ 2 ^ 20) (hsl : sns.length ≤ 63)
    (hC1 : CodeHd h₀ 238 234) (hC2 : CodeHd h₀ 243 241) (ht1 : Tab 234 news) (ht2 : Tab 241 news) (hG : AllBare s.gens)
    (hcq : Cell news (L+1) (some (.int q tq))) (hcn : Cell news (L+1+1) (some (.int (n : Int) tn))) (hcr : Cell news (L+1+1+1) (some (.ref lr))) (hcv : Cell news (L+1+1+1+1) (some (.ref lv)))
    (h1n : 1 ≤ n) (hn : n ≤ 8) (hq : 2 ≤ q) (hq2 : q ≤ 256) (hro : RootsOk q n rs) (hr : RingIn news rg q n) (hmr : (lr, W.listOf vsr.toArray kr) ∈ news) (hir : IntsAre vsr rs)
    (hm_s : m (Str.ofString "script") = some (.ref sl)) (hm_r : m (Str.ofString "ring") = some (.ref rg)) (hm_h : m (Str.ofString "have") = some (.ref lh))

    (vf vg : Value) (fcs gcs xs ys : List Int) (hm_f : m (Str.ofString "f") = some vf) (hm_g : m (Str.ofString "g") = some vg) (pf : PolyIn news vf rg fcs) (pg : PolyIn news vg rg gcs) (wx wy : Value) (lx : ListIn news wx xs) (ly : ListIn news wy ys) (hcx : Cell news (L+1+1+1+1+1+1+1+1+1+1) (some wx)) (hcy : Cell news (L+1+1+1+1+1+1+1+1+1+1+1) (some wy)) (evf : Ev q n rs fcs xs) (evg : Ev q n rs gcs ys) (xm : Int) (tm : Tok) (hbm : Builtin.Int.intBits xm ≤ 2 ^ 20) (hcm : Cell news (L+1+1+1+1+1+1+1+1) (some (.int xm tm)))
    (F : Fr h₀ L s.heap m) (N : News h₀ L s.heap news) :
    wpAny (model PySem.Challenge.rw_xy0002_05.row.toRowW.prog w) (ktrTop dp un gd (Str.ofString "law") scope L a ccd [(Str.ofString "e", L + 1 + 1 + 1 + 1 + 1 + 1 + 1 + 1 + 1 + 1 + 1 + 1), (Str.ofString "y", L + 1 + 1 + 1 + 1 + 1 + 1 + 1 + 1 + 1 + 1 + 1), (Str.ofString "x", L + 1 + 1 + 1 + 1 + 1 + 1 + 1 + 1 + 1 + 1), (Str.ofString "t", L + 1 + 1 + 1 + 1 + 1 + 1 + 1 + 1 + 1), (Str.ofString "m", L + 1 + 1 + 1 + 1 + 1 + 1 + 1 + 1), (Str.ofString "a", L + 1 + 1 + 1 + 1 + 1 + 1 + 1), (Str.ofString "row", L + 1 + 1 + 1 + 1 + 1 + 1), (Str.ofString "z", L + 1 + 1 + 1 + 1 + 1), (Str.ofString "vals", L + 1 + 1 + 1 + 1), (Str.ofString "roots", L + 1 + 1 + 1), (Str.ofString "n", L + 1 + 1), (Str.ofString "q", L + 1)] outer) (execs st (envX (Str.ofString "law") scope L a ccd [(Str.ofString "e", L + 1 + 1 + 1 + 1 + 1 + 1 + 1 + 1 + 1 + 1 + 1 + 1), (Str.ofString "y", L + 1 + 1 + 1 + 1 + 1 + 1 + 1 + 1 + 1 + 1 + 1), (Str.ofString "x", L + 1 + 1 + 1 + 1 + 1 + 1 + 1 + 1 + 1 + 1), (Str.ofString "t", L + 1 + 1 + 1 + 1 + 1 + 1 + 1 + 1 + 1), (Str.ofString "m", L + 1 + 1 + 1 + 1 + 1 + 1 + 1 + 1), (Str.ofString "a", L + 1 + 1 + 1 + 1 + 1 + 1 + 1), (Str.ofString "row", L + 1 + 1 + 1 + 1 + 1 + 1), (Str.ofString "z", L + 1 + 1 + 1 + 1 + 1), (Str.ofString "vals", L + 1 + 1 + 1 + 1), (Str.ofString "roots", L + 1 + 1 + 1), (Str.ofString "n", L + 1 + 1), (Str.ofString "q", L + 1)])) (S5 h₀ L m news s [Str.ofString "new", Str.ofString "val"] [(L+1+1+1+1+1+1), (L+1+1+1+1+1+1+1+1+1+1+1+1)] (NV (Ev q n rs) rg)) E s := by
  obtain rfl : _ = st := Option.some.inj (hst : some _ = some st)
  obtain rfl : _ = scope := Option.some.inj (hsc : some _ = some scope)
  clear hst hsc
  refine RingIn.elim hr ?_
  clear hr
  intro dr h1r k1r h2r k2r tqr tnr cr hr1 hr2
  obtain ⟨ps1, hP1, ht1⟩ := ht1
  obtain ⟨ps2, hP2, ht2⟩ := ht2
  obtain ⟨oq, mq, xq⟩ := hcq
  obtain ⟨on, mn, xn⟩ := hcn
  obtain ⟨or, mr, xr⟩ := hcr
  obtain ⟨ov, mv, xv⟩ := hcv
  have hlr : rs.length = n := hro.len
  revert X; k_fill; intro X

  have hlf := evf.len
  have hlg := evg.len
  have hlx := evf.lenx hro
  have hly := evg.lenx hro
  have hbf := evf.bd
  have hbg := evg.bd
  refine step_S5 (h₀ := h₀) (L := L) (m := m) (news := news) (names := [Str.ofString "new"]) (cs := [(L+1+1+1+1+1+1), (L+1+1+1+1+1+1+1+1+1+1+1+1)]) (R := fun m' nw => ∃ v cs, m' (Str.ofString "new") = some v ∧ PolyIn nw v rg cs ∧ Ev q n rs cs ((List.range n).map fun s => Int.fmod (xs.getD s 0 * rs.getD s 0) q)) ?_ ?_
  · have hb1 : Bd (-1) := bd_small (by decide) (by decide)
    have hgl : (gx n).length = n - 2 + 2 := by simp [gx]
    have hgb := bd_gx n
    obtain ⟨f, df, h3, k3, h4, k4, l, vs, k, cf, rfl, hp1, hp2, hp3, hi⟩ := pf
    k_steps
    · exact S5.sub (by k_asm) (by k_asm) (by intro p hp; k_mem) hP1 ht1 hP2 ht2 (fun z hz => m_one hz) hG rfl ⟨_, _, if_pos rfl, PolyIn.mk' (by k_mem) (by k_mem) (by k_mem) (by assumption), ev_gen hro (by omega) hq hq2 evf⟩
    · obtain rfl : n = 1 := by omega
      exact S5.sub (by k_asm) (by k_asm) (by intro p hp; k_mem) hP1 ht1 hP2 ht2 (fun z hz => m_one hz) hG rfl ⟨_, _, if_pos rfl, PolyIn.mk' (by k_mem) (by k_mem) (by k_mem) (by assumption), ev_gen1 hro hq hq2 evf⟩
  · skip
    intro m1 nw s1 F1 N1 hk hc t1 t2 hm1 G1 hos1 hr1
    obtain ⟨v, cs9, hv, pv, ev9⟩ := hr1
    obtain ⟨l1, vs1, k1, rfl, ml1, il1⟩ := lx.k5 hk
    obtain ⟨on, mn, xn⟩ := hc _ _ (offE 2 rfl rfl) ⟨on, mn, xn⟩
    obtain ⟨oq, mq, xq⟩ := hc _ _ (offE 1 rfl rfl) ⟨oq, mq, xq⟩
    obtain ⟨ox, mx, xx⟩ := hc _ _ (offE 10 rfl rfl) hcx
    obtain ⟨or, mr, xr⟩ := hc _ _ (offE 3 rfl rfl) ⟨or, mr, xr⟩
    have ml2 := hk.list hmr
    refine wpAny_execs_cons (Assign_R5 (news := nw) n (fun s => Int.fmod (xs.getD s 0 * rs.getD s 0) q) (by omega) F1 (by with_unfolding_all rfl) (by with_unfolding_all rfl) (by decide) (by rfl) (by decide) (by rfl) (by rfl) (by rfl) (by intro _; rfl) rfl ?hi ?turn ?fin)
    case hi =>
      refine Call_ (Name_function_global (by rfl) (by rfl) (loadGlobal_builtin (show Heap.Ns _ mainGlobals mg from T.g.keeps F1.keep) (mg_none_of X T.g (by k_is)) (T.b.keeps F1.keep) ((T.builtins "range" (by decide)).trans PyProof.Rows.boot_range) ?_))
      refine PyProof.Rows.callWith_type1 (args_cons (wpAny_Name (wpAny_loadName_cell (by rfl) (by rfl) (by rfl) ⟨_, (N1 _ mn).1, xn⟩ (args_nil ?_))))
      exact range1_rows F1 N1 fun h1 tk1 t1 u1 v1 hr1 Fr1 Nr1 kr1 => ⟨_, _, _, _, _, _, rfl, rfl, Fr1, Nr1, hr1⟩
    case turn =>
      intro i t C oC m₂ h tk E' hi hC hx F' N'
      have N9 := newsTail N'
      have hnC := hC.ns (N' _ List.mem_cons_self).1
      obtain ⟨tha, ha⟩ := ints_getD il1 (i := i) (by omega)
      refine wpAny_BinOp (wpAny_BinOp (Subscript_ (wpAny_Name (wpAny_loadName_cell (by rfl) (by rfl) (by rfl) ⟨_, (N9 _ mx).1, xx⟩ (wpAny_Name (wpAny_loadName_local (by rfl) (by rfl) hnC hx ?_))))))
      refine item_L N9 ml1 ha (by omega) ?_
      obtain ⟨thb, hb⟩ := ints_getD hir (i := i) (by omega)
      refine Subscript_ (wpAny_Name (wpAny_loadName_cell (by rfl) (by rfl) (by rfl) ⟨_, (N9 _ mr).1, xr⟩ (wpAny_Name (wpAny_loadName_local (by rfl) (by rfl) hnC hx ?_))))
      refine item_L N9 ml2 hb (by omega) ?_
      have hbr := getD_all hro.rng (i := i) (by omega)
      refine PyProof.Rows.mul_int ?_ (mulOk_bd (bd_getD (bd_rng hq2 (evf.rng (by omega))) _) (bd_small (by omega) (by omega)))
      refine wpAny_Name (wpAny_loadName_cell (by rfl) (by rfl) (by rfl) ⟨_, (N9 _ mq).1, xq⟩ ?_)
      refine PyProof.Rows.mod_int (by omega) ?_
      exact ⟨_, _, rfl, rfl⟩
    case fin =>
      intro D h tk zs F' N' iz
      refine wpAny_execs_nil ?_
      refine S5.two hk hc t1 t2 F' N' (fun p hp => List.mem_cons_of_mem _ hp) (fun z hz => (if_neg (cont2 hz).2).trans (hm1 z (cont2 hz).1)) G1 hos1 ?_
      exact ⟨_, _, _, _, (if_neg (by decide)).trans hv, if_pos rfl, pv.mono (fun p hp => List.mem_cons_of_mem _ hp), ⟨_, _, _, rfl, List.mem_cons_self, iz⟩, ev9⟩
end
theorem walkOff53 : True := by
  w_top off
  trivial
set_option maxHeartbeats 4000000 in
theorem ybif (st : Stmt) (hst : loopStmt? PySem.Challenge.rw_xy0002_05.row.toRowW.prog 7 10 = some st)
    (scope : Scope) (hsc : lawScope? PySem.Challenge.rw_xy0002_05.row.toRowW.prog = some scope)
    (w : World) (mean : ExcName → Option Value) (mg mb : Str → Option Value) (dp un : Nat) (gd : Option (List Code)) (a : Addr) (ccd : Value) (outer : List Env) (A₀ : Around) (base h₀ : Heap) (L : Addr) (m : Str → Option Value) (s : Shared) (E : Value → Shared → Prop) (news : Led)
    (sl rg lr lh lv : Addr) (n : Nat) (q : Int) (tn tq : Tok) (svs vsr : List Value) (sns rs : List Int) (kr : Nat)
    (B : Below A₀ base outer h₀) (hS : base.IsList sl svs.toArray) (X : (hd05.heap_39 w.params).In h₀) (T : Top topProg (looseW Mine05.view [] ++ (recsOf Mine05.view).map (·.name) ++ (litsOf Mine05.view).map (·.1) ++ (clssOf Mine05.view (looseW Mine05.view [])).map (·.name)) mean mg mb h₀) (hdp : dp + 100 < recursionLimit) (hun : un + 800 < cLine)
    (hsi : IntsAre svs sns) (hsb : ∀ x ∈ sns, Builtin.Int.intBits x ≤ 2 ^ 20) (hsl : sns.length ≤ 63)
    (hC1 : CodeHd h₀ 238 234) (hC2 : CodeHd h₀ 243 241) (ht1 : Tab 234 news) (ht2 : Tab 241 news) (hG : AllBare s.gens)
    (hcq : Cell news (L+1) (some (.int q tq))) (hcn : Cell news (L+1+1) (some (.int (n : Int) tn))) (hcr : Cell news (L+1+1+1) (some (.ref lr))) (hcv : Cell news (L+1+1+1+1) (some (.ref lv)))
    (h1n : 1 ≤ n) (hn : n ≤ 8) (hq : 2 ≤ q) (hq2 : q ≤ 256) (hro : RootsOk q n rs) (hr : RingIn news rg q n) (hmr : (lr, W.listOf vsr.toArray kr) ∈ news) (hir : IntsAre vsr rs)
    (hm_s : m (Str.ofString "script") = some (.ref sl)) (hm_r : m (Str.ofString "ring") = some (.ref rg)) (hm_h : m (Str.ofString "have") = some (.ref lh))

    (vf vg : Value) (fcs gcs xs ys : List Int) (hm_f : m (Str.ofString "f") = some vf) (hm_g : m (Str.ofString "g") = some vg) (pf : PolyIn news vf rg fcs) (pg : PolyIn news vg rg gcs) (wx wy : Value) (lx : ListIn news wx xs) (ly : ListIn news wy ys) (hcx : Cell news (L+1+1+1+1+1+1+1+1+1+1) (some wx)) (hcy : Cell news (L+1+1+1+1+1+1+1+1+1+1+1) (some wy)) (evf : Ev q n rs fcs xs) (evg : Ev q n rs gcs ys) (xm : Int) (tm : Tok) (hbm : Builtin.Int.intBits xm ≤ 2 ^ 20) (hcm : Cell news (L+1+1+1+1+1+1+1+1) (some (.int xm tm))) (ve : Option Value) (hce : Cell news (L+1+1+1+1+1+1+1+1+1+1+1+1) ve) (xa : Int) (ta : Tok) (hba : Builtin.Int.intBits xa ≤ 2 ^ 20) (hca : Cell news (L+1+1+1+1+1+1+1) (some (.int xa ta))) (vr : Option Value) (hcw : Cell news (L+1+1+1+1+1+1) vr) (hm_ring : m (Str.ofString "ring") = some (.ref rg)) (k3 : Nat) (t3 : Tok) (hk3 : k3 < 3) (hct : Cell news (L+1+1+1+1+1+1+1+1+1) (some (.int (k3 : Int) t3))) (hvs wvs : List Value) (kh kv : Nat) (mh : (lh, W.listOf hvs.toArray kh) ∈ news) (mv9 : (lv, W.listOf wvs.toArray kv) ∈ news) (vt wt : Value) (tcs ts : List Int) (hvt : hvs[k3]? = some vt) (hwt : wvs[k3]? = some wt) (pt : PolyIn news vt rg tcs) (lt : ListIn news wt ts) (evt : Ev q n rs tcs ts) (op : Nat) (top : Tok) (hop : op < 12) (hm_op : m (Str.ofString "op") = some (.int (op : Int) top))
    (F : Fr h₀ L s.heap m) (N : News h₀ L s.heap news) :
    wpAny (model PySem.Challenge.rw_xy0002_05.row.toRowW.prog w) (ktrTop dp un gd (Str.ofString "law") scope L a ccd [(Str.ofString "e", L + 1 + 1 + 1 + 1 + 1 + 1 + 1 + 1 + 1 + 1 + 1 + 1), (Str.ofString "y", L + 1 + 1 + 1 + 1 + 1 + 1 + 1 + 1 + 1 + 1 + 1), (Str.ofString "x", L + 1 + 1 + 1 + 1 + 1 + 1 + 1 + 1 + 1 + 1), (Str.ofString "t", L + 1 + 1 + 1 + 1 + 1 + 1 + 1 + 1 + 1), (Str.ofString "m", L + 1 + 1 + 1 + 1 + 1 + 1 + 1 + 1), (Str.ofString "a", L + 1 + 1 + 1 + 1 + 1 + 1 + 1), (Str.ofString "row", L + 1 + 1 + 1 + 1 + 1 + 1), (Str.ofString "z", L + 1 + 1 + 1 + 1 + 1), (Str.ofString "vals", L + 1 + 1 + 1 + 1), (Str.ofString "roots", L + 1 + 1 + 1), (Str.ofString "n", L + 1 + 1), (Str.ofString "q", L + 1)] outer) (exec st (envX (Str.ofString "law") scope L a ccd [(Str.ofString "e", L + 1 + 1 + 1 + 1 + 1 + 1 + 1 + 1 + 1 + 1 + 1 + 1), (Str.ofString "y", L + 1 + 1 + 1 + 1 + 1 + 1 + 1 + 1 + 1 + 1 + 1), (Str.ofString "x", L + 1 + 1 + 1 + 1 + 1 + 1 + 1 + 1 + 1 + 1), (Str.ofString "t", L + 1 + 1 + 1 + 1 + 1 + 1 + 1 + 1 + 1), (Str.ofString "m", L + 1 + 1 + 1 + 1 + 1 + 1 + 1 + 1), (Str.ofString "a", L + 1 + 1 + 1 + 1 + 1 + 1 + 1), (Str.ofString "row", L + 1 + 1 + 1 + 1 + 1 + 1), (Str.ofString "z", L + 1 + 1 + 1 + 1 + 1), (Str.ofString "vals", L + 1 + 1 + 1 + 1), (Str.ofString "roots", L + 1 + 1 + 1), (Str.ofString "n", L + 1 + 1), (Str.ofString "q", L + 1)])) (S5 h₀ L m news s [Str.ofString "new", Str.ofString "val"] [(L+1+1+1+1+1+1), (L+1+1+1+1+1+1+1+1+1+1+1+1)] (NV (Ev q n rs) rg)) E s := by
  obtain rfl : _ = st := Option.some.inj (hst : some _ = some st)
  obtain rfl : _ = scope := Option.some.inj (hsc : some _ = some scope)
  clear hst hsc
  refine if_op (news := news) (c := 0) F hm_op rfl rfl rfl (fun _ tk => ybr0 _ rfl _ rfl w mean mg mb dp un gd a ccd outer A₀ base h₀ L m _ E news sl rg lr lh lv n q tn tq svs vsr sns rs kr B hS X T hdp hun hsi hsb hsl hC1 hC2 ht1 ht2 hG hcq hcn hcr hcv h1n hn hq hq2 hro hr hmr hir hm_s hm_r hm_h vf vg fcs gcs xs ys hm_f hm_g pf pg wx wy lx ly hcx hcy evf evg xm tm hbm hcm  F N) fun hne0 tk0 => ?_
  refine execs_S5 ?_
  refine if_op (news := news) (c := 1) F hm_op rfl rfl rfl (fun _ tk => ybr1 _ rfl _ rfl w mean mg mb dp un gd a ccd outer A₀ base h₀ L m _ E news sl rg lr lh lv n q tn tq svs vsr sns rs kr B hS X T hdp hun hsi hsb hsl hC1 hC2 ht1 ht2 hG hcq hcn hcr hcv h1n hn hq hq2 hro hr hmr hir hm_s hm_r hm_h vf vg fcs gcs xs ys hm_f hm_g pf pg wx wy lx ly hcx hcy evf evg xm tm hbm hcm  F N) fun hne1 tk1 => ?_
  refine execs_S5 ?_
  refine if_op (news := news) (c := 2) F hm_op rfl rfl rfl (fun _ tk => ybr2 _ rfl _ rfl w mean mg mb dp un gd a ccd outer A₀ base h₀ L m _ E news sl rg lr lh lv n q tn tq svs vsr sns rs kr B hS X T hdp hun hsi hsb hsl hC1 hC2 ht1 ht2 hG hcq hcn hcr hcv h1n hn hq hq2 hro hr hmr hir hm_s hm_r hm_h vf vg fcs gcs xs ys hm_f hm_g pf pg wx wy lx ly hcx hcy evf evg xm tm hbm hcm  F N) fun hne2 tk2 => ?_
  refine execs_S5 ?_
  refine if_op (news := news) (c := 3) F hm_op rfl rfl rfl (fun _ tk => ybr3 _ rfl _ rfl w mean mg mb dp un gd a ccd outer A₀ base h₀ L m _ E news sl rg lr lh lv n q tn tq svs vsr sns rs kr B hS X T hdp hun hsi hsb hsl hC1 hC2 ht1 ht2 hG hcq hcn hcr hcv h1n hn hq hq2 hro hr hmr hir hm_s hm_r hm_h vf vg fcs gcs xs ys hm_f hm_g pf pg wx wy lx ly hcx hcy evf evg xm tm hbm hcm  F N) fun hne3 tk3 => ?_
  refine execs_S5 ?_
  refine if_op (news := news) (c := 4) F hm_op rfl rfl rfl (fun _ tk => ybr4 _ rfl _ rfl w mean mg mb dp un gd a ccd outer A₀ base h₀ L m _ E news sl rg lr lh lv n q tn tq svs vsr sns rs kr B hS X T hdp hun hsi hsb hsl hC1 hC2 ht1 ht2 hG hcq hcn hcr hcv h1n hn hq hq2 hro hr hmr hir hm_s hm_r hm_h vf vg fcs gcs xs ys hm_f hm_g pf pg wx wy lx ly hcx hcy evf evg xm tm hbm hcm  F N) fun hne4 tk4 => ?_
  refine execs_S5 ?_
  refine if_op (news := news) (c := 5) F hm_op rfl rfl rfl (fun _ tk => ybr5 _ rfl _ rfl w mean mg mb dp un gd a ccd outer A₀ base h₀ L m _ E news sl rg lr lh lv n q tn tq svs vsr sns rs kr B hS X T hdp hun hsi hsb hsl hC1 hC2 ht1 ht2 hG hcq hcn hcr hcv h1n hn hq hq2 hro hr hmr hir hm_s hm_r hm_h vf vg fcs gcs xs ys hm_f hm_g pf pg wx wy lx ly hcx hcy evf evg xm tm hbm hcm  F N) fun hne5 tk5 => ?_
  refine execs_S5 ?_
  refine if_op (news := news) (c := 6) F hm_op rfl rfl rfl (fun _ tk => ybr6 _ rfl _ rfl w mean mg mb dp un gd a ccd outer A₀ base h₀ L m _ E news sl rg lr lh lv n q tn tq svs vsr sns rs kr B hS X T hdp hun hsi hsb hsl hC1 hC2 ht1 ht2 hG hcq hcn hcr hcv h1n hn hq hq2 hro hr hmr hir hm_s hm_r hm_h vf vg fcs gcs xs ys hm_f hm_g pf pg wx wy lx ly hcx hcy evf evg xm tm hbm hcm  F N) fun hne6 tk6 => ?_
  refine execs_S5 ?_
  refine if_op (news := news) (c := 7) F hm_op rfl rfl rfl (fun _ tk => ybr7 _ rfl _ rfl w mean mg mb dp un gd a ccd outer A₀ base h₀ L m _ E news sl rg lr lh lv n q tn tq svs vsr sns rs kr B hS X T hdp hun hsi hsb hsl hC1 hC2 ht1 ht2 hG hcq hcn hcr hcv h1n hn hq hq2 hro hr hmr hir hm_s hm_r hm_h vf vg fcs gcs xs ys hm_f hm_g pf pg wx wy lx ly hcx hcy evf evg xm tm hbm hcm ve hce F N) fun hne7 tk7 => ?_
  refine execs_S5 ?_
  refine if_op (news := news) (c := 8) F hm_op rfl rfl rfl (fun _ tk => ybr8 _ rfl _ rfl w mean mg mb dp un gd a ccd outer A₀ base h₀ L m _ E news sl rg lr lh lv n q tn tq svs vsr sns rs kr B hS X T hdp hun hsi hsb hsl hC1 hC2 ht1 ht2 hG hcq hcn hcr hcv h1n hn hq hq2 hro hr hmr hir hm_s hm_r hm_h vf vg fcs gcs xs ys hm_f hm_g pf pg wx wy lx ly hcx hcy evf evg xm tm hbm hcm  F N) fun hne8 tk8 => ?_
  refine execs_S5 ?_
  refine if_op (news := news) (c := 9) F hm_op rfl rfl rfl (fun _ tk => ybr9 _ rfl _ rfl w mean mg mb dp un gd a ccd outer A₀ base h₀ L m _ E news sl rg lr lh lv n q tn tq svs vsr sns rs kr B hS X T hdp hun hsi hsb hsl hC1 hC2 ht1 ht2 hG hcq hcn hcr hcv h1n hn hq hq2 hro hr hmr hir hm_s hm_r hm_h vf vg fcs gcs xs ys hm_f hm_g pf pg wx wy lx ly hcx hcy evf evg xm tm hbm hcm xa ta hba hca vr hcw hm_ring F N) fun hne9 tk9 => ?_
  refine execs_S5 ?_
  refine if_op (news := news) (c := 10) F hm_op rfl rfl rfl (fun _ tk => ybr10 _ rfl _ rfl w mean mg mb dp un gd a ccd outer A₀ base h₀ L m _ E news sl rg lr lh lv n q tn tq svs vsr sns rs kr B hS X T hdp hun hsi hsb hsl hC1 hC2 ht1 ht2 hG hcq hcn hcr hcv h1n hn hq hq2 hro hr hmr hir hm_s hm_r hm_h vf vg fcs gcs xs ys hm_f hm_g pf pg wx wy lx ly hcx hcy evf evg xm tm hbm hcm  F N) fun hne10 tk10 => ?_
  exact ybr11 _ rfl _ rfl w mean mg mb dp un gd a ccd outer A₀ base h₀ L m _ E news sl rg lr lh lv n q tn tq svs vsr sns rs kr B hS X T hdp hun hsi hsb hsl hC1 hC2 ht1 ht2 hG hcq hcn hcr hcv h1n hn hq hq2 hro hr hmr hir hm_s hm_r hm_h vf vg fcs gcs xs ys hm_f hm_g pf pg wx wy lx ly hcx hcy evf evg xm tm hbm hcm k3 t3 hk3 hct hvs wvs kh kv mh mv9 vt wt tcs ts hvt hwt pt lt evt F N
theorem walkOff54 : True := by
  w_top off
  trivial
set_option maxHeartbeats 4000000 in
theorem yturn (st : List Stmt) (hst : loopBody? PySem.Challenge.rw_xy0002_05.row.toRowW.prog 7 = some st)
    (scope : Scope) (hsc : lawScope? PySem.Challenge.rw_xy0002_05.row.toRowW.prog = some scope)
    (w : World) (mean : ExcName → Option Value) (mg mb : Str → Option Value) (dp un : Nat) (gd : Option (List Code)) (a : Addr) (ccd : Value) (outer : List Env) (A₀ : Around) (base h₀ : Heap) (L : Addr) (m : Str → Option Value) (s : Shared) (E : Value → Shared → Prop) (news : Led)
    (sl rg lr lh lv : Addr) (n : Nat) (q : Int) (tn tq : Tok) (svs vsr : List Value) (sns rs : List Int) (kr : Nat)
    (B : Below A₀ base outer h₀) (hS : base.IsList sl svs.toArray) (X : (hd05.heap_39 w.params).In h₀) (T : Top topProg (looseW Mine05.view [] ++ (recsOf Mine05.view).map (·.name) ++ (litsOf Mine05.view).map (·.1) ++ (clssOf Mine05.view (looseW Mine05.view [])).map (·.name)) mean mg mb h₀) (hdp : dp + 100 < recursionLimit) (hun : un + 800 < cLine)
    (hsi : IntsAre svs sns) (hsb : ∀ x ∈ sns, Builtin.Int.intBits x ≤ 2 ^ 20) (hsl : sns.length ≤ 63)
    (hC1 : CodeHd h₀ 238 234) (hC2 : CodeHd h₀ 243 241) (hG : AllBare s.gens)
    (h1n : 1 ≤ n) (hn : n ≤ 8) (hq : 2 ≤ q) (hq2 : q ≤ 256) (hro : RootsOk q n rs)
    (I : Addr) (oI : Obj) (hI0 : (I, oI) ∈ news) (hI1 : ∀ ps, oI ≠ tabObj ps) (hI2 : ∀ v, oI.data ≠ .cell v) (hI3 : oI.cls = .type "range_iterator") (H0 : LI (fun _ => Ev q n rs) L q n tq tn rs vsr kr sl rg lr lh lv 3 m news) (r : Nat) (tr : Tok) (hr27 : r < 27) (n_r : m (Str.ofString "r") = some (.int (r : Int) tr))
    (F : Fr h₀ L s.heap m) (N : News h₀ L s.heap news) :
    wpAny (model PySem.Challenge.rw_xy0002_05.row.toRowW.prog w) (ktrTop dp un gd (Str.ofString "law") scope L a ccd [(Str.ofString "e", L + 1 + 1 + 1 + 1 + 1 + 1 + 1 + 1 + 1 + 1 + 1 + 1), (Str.ofString "y", L + 1 + 1 + 1 + 1 + 1 + 1 + 1 + 1 + 1 + 1 + 1), (Str.ofString "x", L + 1 + 1 + 1 + 1 + 1 + 1 + 1 + 1 + 1 + 1), (Str.ofString "t", L + 1 + 1 + 1 + 1 + 1 + 1 + 1 + 1 + 1), (Str.ofString "m", L + 1 + 1 + 1 + 1 + 1 + 1 + 1 + 1), (Str.ofString "a", L + 1 + 1 + 1 + 1 + 1 + 1 + 1), (Str.ofString "row", L + 1 + 1 + 1 + 1 + 1 + 1), (Str.ofString "z", L + 1 + 1 + 1 + 1 + 1), (Str.ofString "vals", L + 1 + 1 + 1 + 1), (Str.ofString "roots", L + 1 + 1 + 1), (Str.ofString "n", L + 1 + 1), (Str.ofString "q", L + 1)] outer) (execs st (envX (Str.ofString "law") scope L a ccd [(Str.ofString "e", L + 1 + 1 + 1 + 1 + 1 + 1 + 1 + 1 + 1 + 1 + 1 + 1), (Str.ofString "y", L + 1 + 1 + 1 + 1 + 1 + 1 + 1 + 1 + 1 + 1 + 1), (Str.ofString "x", L + 1 + 1 + 1 + 1 + 1 + 1 + 1 + 1 + 1 + 1), (Str.ofString "t", L + 1 + 1 + 1 + 1 + 1 + 1 + 1 + 1 + 1), (Str.ofString "m", L + 1 + 1 + 1 + 1 + 1 + 1 + 1 + 1), (Str.ofString "a", L + 1 + 1 + 1 + 1 + 1 + 1 + 1), (Str.ofString "row", L + 1 + 1 + 1 + 1 + 1 + 1), (Str.ofString "z", L + 1 + 1 + 1 + 1 + 1), (Str.ofString "vals", L + 1 + 1 + 1 + 1), (Str.ofString "roots", L + 1 + 1 + 1), (Str.ofString "n", L + 1 + 1), (Str.ofString "q", L + 1)])) (FEnd h₀ L s I oI (LI (fun _ => Ev q n rs) L q n tq tn rs vsr kr sl rg lr lh lv 3)) E s := by
  obtain rfl : _ = st := Option.some.inj (hst : some _ = some st)
  obtain rfl : _ = scope := Option.some.inj (hsc : some _ = some scope)
  clear hst hsc
  have F0 := F
  have N0 := N
  have G0 := hG
  have O0 : s.os = s.os := rfl
  obtain ⟨uq, un9, ur, uv, uo, u1, u2, ug, ul, ui, UH, us, ut, uh⟩ := id H0
  refine step_S5 (ybl1 _ rfl _ rfl w mean mg mb dp un gd a ccd outer A₀ base h₀ L _ _ E _ sl rg lr lh lv n q tn tq svs vsr sns rs kr B hS X T hdp hun hsi hsb hsl hC1 hC2 u1 u2 G0 uq un9 ur uv h1n hn hq hq2 hro ug ul ui us ut uh r tr hr27 n_r F0 N0) ?_
  intro m1 nw1 s1 F1 N1 hk1 hc1 t11 t21 hm1 G1 hos1 R1
  have H1 := H0.step hk1 hc1 sub0 t11 t21 (hm1 _ rfl) (hm1 _ rfl) (hm1 _ rfl)
  have O1 := hos1.trans O0
  replace hI0 := hk1.1 _ hI0 hI1 hI2
  replace n_r := (hm1 _ rfl).trans n_r
  obtain ⟨op, top, hop, n_op⟩ := R1
  obtain ⟨v7, c_7⟩ := H1.co inC7
  obtain ⟨uq, un9, ur, uv, uo, u1, u2, ug, ul, ui, UH, us, ut, uh⟩ := id H1
  refine step_S5 (ybl2 _ rfl _ rfl w mean mg mb dp un gd a ccd outer A₀ base h₀ L _ _ E _ sl rg lr lh lv n q tn tq svs vsr sns rs kr B hS X T hdp hun hsi hsb hsl hC1 hC2 u1 u2 G1 uq un9 ur uv h1n hn hq hq2 hro ug ul ui us ut uh r tr hr27 n_r v7 c_7 F1 N1) ?_
  intro m2 nw2 s2 F2 N2 hk2 hc2 t12 t22 hm2 G2 hos2 R2
  have H2 := H1.step hk2 hc2 (subC inC7) t12 t22 (hm2 _ rfl) (hm2 _ rfl) (hm2 _ rfl)
  have O2 := hos2.trans O1
  replace hI0 := hk2.1 _ hI0 hI1 hI2
  replace n_r := (hm2 _ rfl).trans n_r
  replace n_op := (hm2 _ rfl).trans n_op
  obtain ⟨xa, ta, hba, c_7⟩ := R2
  obtain ⟨v8, c_8⟩ := H2.co inC8
  obtain ⟨uq, un9, ur, uv, uo, u1, u2, ug, ul, ui, UH, us, ut, uh⟩ := id H2
  refine step_S5 (ybl3 _ rfl _ rfl w mean mg mb dp un gd a ccd outer A₀ base h₀ L _ _ E _ sl rg lr lh lv n q tn tq svs vsr sns rs kr B hS X T hdp hun hsi hsb hsl hC1 hC2 u1 u2 G2 uq un9 ur uv h1n hn hq hq2 hro ug ul ui us ut uh r tr hr27 n_r v8 c_8 F2 N2) ?_
  intro m3 nw3 s3 F3 N3 hk3 hc3 t13 t23 hm3 G3 hos3 R3
  have H3 := H2.step hk3 hc3 (subC inC8) t13 t23 (hm3 _ rfl) (hm3 _ rfl) (hm3 _ rfl)
  have O3 := hos3.trans O2
  replace hI0 := hk3.1 _ hI0 hI1 hI2
  replace n_r := (hm3 _ rfl).trans n_r
  replace n_op := (hm3 _ rfl).trans n_op
  replace c_7 := hc3 _ _ (offC 7 8 rfl rfl (by decide)) c_7
  obtain ⟨xm, tm, hbm, c_8⟩ := R3
  obtain ⟨uq, un9, ur, uv, uo, u1, u2, ug, ul, ui, UH, us, ut, uh⟩ := id H3
  refine step_S5 (ybl4 _ rfl _ rfl w mean mg mb dp un gd a ccd outer A₀ base h₀ L _ _ E _ sl rg lr lh lv n q tn tq svs vsr sns rs kr B hS X T hdp hun hsi hsb hsl hC1 hC2 u1 u2 G3 uq un9 ur uv h1n hn hq hq2 hro ug ul ui us ut uh xa ta c_7 F3 N3) ?_
  intro m4 nw4 s4 F4 N4 hk4 hc4 t14 t24 hm4 G4 hos4 R4
  have H4 := H3.step hk4 hc4 sub0 t14 t24 (hm4 _ rfl) (hm4 _ rfl) (hm4 _ rfl)
  have O4 := hos4.trans O3
  replace hI0 := hk4.1 _ hI0 hI1 hI2
  replace n_r := (hm4 _ rfl).trans n_r
  replace n_op := (hm4 _ rfl).trans n_op
  replace c_7 := hc4 _ _ (fun h => nomatch h) c_7
  replace c_8 := hc4 _ _ (fun h => nomatch h) c_8
  obtain ⟨i, ti, hi3, n_i⟩ := R4
  obtain ⟨uq, un9, ur, uv, uo, u1, u2, ug, ul, ui, UH, us, ut, uh⟩ := id H4
  refine step_S5 (ybl5 _ rfl _ rfl w mean mg mb dp un gd a ccd outer A₀ base h₀ L _ _ E _ sl rg lr lh lv n q tn tq svs vsr sns rs kr B hS X T hdp hun hsi hsb hsl hC1 hC2 u1 u2 G4 uq un9 ur uv h1n hn hq hq2 hro ug ul ui us ut uh xa ta c_7 F4 N4) ?_
  intro m5 nw5 s5 F5 N5 hk5 hc5 t15 t25 hm5 G5 hos5 R5
  have H5 := H4.step hk5 hc5 sub0 t15 t25 (hm5 _ rfl) (hm5 _ rfl) (hm5 _ rfl)
  have O5 := hos5.trans O4
  replace hI0 := hk5.1 _ hI0 hI1 hI2
  replace n_r := (hm5 _ rfl).trans n_r
  replace n_op := (hm5 _ rfl).trans n_op
  replace c_7 := hc5 _ _ (fun h => nomatch h) c_7
  replace c_8 := hc5 _ _ (fun h => nomatch h) c_8
  replace n_i := (hm5 _ rfl).trans n_i
  obtain ⟨j, tj, hj3, n_j⟩ := R5
  obtain ⟨v9, c_9⟩ := H5.co inC9
  obtain ⟨uq, un9, ur, uv, uo, u1, u2, ug, ul, ui, UH, us, ut, uh⟩ := id H5
  refine step_S5 (ybl6 _ rfl _ rfl w mean mg mb dp un gd a ccd outer A₀ base h₀ L _ _ E _ sl rg lr lh lv n q tn tq svs vsr sns rs kr B hS X T hdp hun hsi hsb hsl hC1 hC2 u1 u2 G5 uq un9 ur uv h1n hn hq hq2 hro ug ul ui us ut uh xa ta c_7 v9 c_9 F5 N5) ?_
  intro m6 nw6 s6 F6 N6 hk6 hc6 t16 t26 hm6 G6 hos6 R6
  have H6 := H5.step hk6 hc6 (subC inC9) t16 t26 (hm6 _ rfl) (hm6 _ rfl) (hm6 _ rfl)
  have O6 := hos6.trans O5
  replace hI0 := hk6.1 _ hI0 hI1 hI2
  replace n_r := (hm6 _ rfl).trans n_r
  replace n_op := (hm6 _ rfl).trans n_op
  replace c_7 := hc6 _ _ (offC 7 9 rfl rfl (by decide)) c_7
  replace c_8 := hc6 _ _ (offC 8 9 rfl rfl (by decide)) c_8
  replace n_i := (hm6 _ rfl).trans n_i
  replace n_j := (hm6 _ rfl).trans n_j
  obtain ⟨k3, t3, hk3, c_9⟩ := R6
  obtain ⟨hvs, wvs, kh, kv, l1, l2, mh, mv, hp⟩ := H6.hv
  obtain ⟨vf, wx, fcs, xs, ef1, ef2, pf, lx, evf⟩ := hp i hi3
  obtain ⟨vg, wy, gcs, ys, eg1, eg2, pg, ly, evg⟩ := hp j hj3
  obtain ⟨vt, wt, tcs, ts, et1, et2, pt, lt, evt⟩ := hp k3 hk3
  clear hp
  obtain ⟨uq, un9, ur, uv, uo, u1, u2, ug, ul, ui, UH, us, ut, uh⟩ := id H6
  refine step_S5 (ybl7 _ rfl _ rfl w mean mg mb dp un gd a ccd outer A₀ base h₀ L _ _ E _ sl rg lr lh lv n q tn tq svs vsr sns rs kr B hS X T hdp hun hsi hsb hsl hC1 hC2 u1 u2 G6 uq un9 ur uv h1n hn hq hq2 hro ug ul ui us ut uh i ti hi3 n_i hvs kh mh vf ef1 F6 N6) ?_
  intro m7 nw7 s7 F7 N7 hk7 hc7 t17 t27 hm7 G7 hos7 R7
  have H7 := H6.step hk7 hc7 sub0 t17 t27 (hm7 _ rfl) (hm7 _ rfl) (hm7 _ rfl)
  have O7 := hos7.trans O6
  replace hI0 := hk7.1 _ hI0 hI1 hI2
  replace n_r := (hm7 _ rfl).trans n_r
  replace n_op := (hm7 _ rfl).trans n_op
  replace c_7 := hc7 _ _ (fun h => nomatch h) c_7
  replace c_8 := hc7 _ _ (fun h => nomatch h) c_8
  replace n_i := (hm7 _ rfl).trans n_i
  replace n_j := (hm7 _ rfl).trans n_j
  replace c_9 := hc7 _ _ (fun h => nomatch h) c_9
  replace mh := hk7.list mh
  replace mv := hk7.list mv
  replace pf := pf.k5 hk7
  replace pg := pg.k5 hk7
  replace pt := pt.k5 hk7
  replace lx := lx.k5 hk7
  replace ly := ly.k5 hk7
  replace lt := lt.k5 hk7
  have n_f := R7
  obtain ⟨uq, un9, ur, uv, uo, u1, u2, ug, ul, ui, UH, us, ut, uh⟩ := id H7
  refine step_S5 (ybl8 _ rfl _ rfl w mean mg mb dp un gd a ccd outer A₀ base h₀ L _ _ E _ sl rg lr lh lv n q tn tq svs vsr sns rs kr B hS X T hdp hun hsi hsb hsl hC1 hC2 u1 u2 G7 uq un9 ur uv h1n hn hq hq2 hro ug ul ui us ut uh j tj hj3 n_j hvs kh mh vg eg1 F7 N7) ?_
  intro m8 nw8 s8 F8 N8 hk8 hc8 t18 t28 hm8 G8 hos8 R8
  have H8 := H7.step hk8 hc8 sub0 t18 t28 (hm8 _ rfl) (hm8 _ rfl) (hm8 _ rfl)
  have O8 := hos8.trans O7
  replace hI0 := hk8.1 _ hI0 hI1 hI2
  replace n_r := (hm8 _ rfl).trans n_r
  replace n_op := (hm8 _ rfl).trans n_op
  replace c_7 := hc8 _ _ (fun h => nomatch h) c_7
  replace c_8 := hc8 _ _ (fun h => nomatch h) c_8
  replace n_i := (hm8 _ rfl).trans n_i
  replace n_j := (hm8 _ rfl).trans n_j
  replace c_9 := hc8 _ _ (fun h => nomatch h) c_9
  replace mh := hk8.list mh
  replace mv := hk8.list mv
  replace pf := pf.k5 hk8
  replace pg := pg.k5 hk8
  replace pt := pt.k5 hk8
  replace lx := lx.k5 hk8
  replace ly := ly.k5 hk8
  replace lt := lt.k5 hk8
  replace n_f := (hm8 _ rfl).trans n_f
  have n_g := R8
  obtain ⟨v10, c_10⟩ := H8.co inC10
  obtain ⟨uq, un9, ur, uv, uo, u1, u2, ug, ul, ui, UH, us, ut, uh⟩ := id H8
  refine step_S5 (ybl9 _ rfl _ rfl w mean mg mb dp un gd a ccd outer A₀ base h₀ L _ _ E _ sl rg lr lh lv n q tn tq svs vsr sns rs kr B hS X T hdp hun hsi hsb hsl hC1 hC2 u1 u2 G8 uq un9 ur uv h1n hn hq hq2 hro ug ul ui us ut uh i ti hi3 n_i wvs kv mv wx ef2 v10 c_10 F8 N8) ?_
  intro m9 nw9 s9 F9 N9 hk9 hc9 t19 t29 hm9 G9 hos9 R9
  have H9 := H8.step hk9 hc9 (subC inC10) t19 t29 (hm9 _ rfl) (hm9 _ rfl) (hm9 _ rfl)
  have O9 := hos9.trans O8
  replace hI0 := hk9.1 _ hI0 hI1 hI2
  replace n_r := (hm9 _ rfl).trans n_r
  replace n_op := (hm9 _ rfl).trans n_op
  replace c_7 := hc9 _ _ (offC 7 10 rfl rfl (by decide)) c_7
  replace c_8 := hc9 _ _ (offC 8 10 rfl rfl (by decide)) c_8
  replace n_i := (hm9 _ rfl).trans n_i
  replace n_j := (hm9 _ rfl).trans n_j
  replace c_9 := hc9 _ _ (offC 9 10 rfl rfl (by decide)) c_9
  replace mh := hk9.list mh
  replace mv := hk9.list mv
  replace pf := pf.k5 hk9
  replace pg := pg.k5 hk9
  replace pt := pt.k5 hk9
  replace lx := lx.k5 hk9
  replace ly := ly.k5 hk9
  replace lt := lt.k5 hk9
  replace n_f := (hm9 _ rfl).trans n_f
  replace n_g := (hm9 _ rfl).trans n_g
  have c_10 := R9
  obtain ⟨v11, c_11⟩ := H9.co inC11
  obtain ⟨uq, un9, ur, uv, uo, u1, u2, ug, ul, ui, UH, us, ut, uh⟩ := id H9
  refine step_S5 (ybl10 _ rfl _ rfl w mean mg mb dp un gd a ccd outer A₀ base h₀ L _ _ E _ sl rg lr lh lv n q tn tq svs vsr sns rs kr B hS X T hdp hun hsi hsb hsl hC1 hC2 u1 u2 G9 uq un9 ur uv h1n hn hq hq2 hro ug ul ui us ut uh j tj hj3 n_j wvs kv mv wy eg2 v11 c_11 F9 N9) ?_
  intro m10 nw10 s10 F10 N10 hk10 hc10 t110 t210 hm10 G10 hos10 R10
  have H10 := H9.step hk10 hc10 (subC inC11) t110 t210 (hm10 _ rfl) (hm10 _ rfl) (hm10 _ rfl)
  have O10 := hos10.trans O9
  replace hI0 := hk10.1 _ hI0 hI1 hI2
  replace n_r := (hm10 _ rfl).trans n_r
  replace n_op := (hm10 _ rfl).trans n_op
  replace c_7 := hc10 _ _ (offC 7 11 rfl rfl (by decide)) c_7
  replace c_8 := hc10 _ _ (offC 8 11 rfl rfl (by decide)) c_8
  replace n_i := (hm10 _ rfl).trans n_i
  replace n_j := (hm10 _ rfl).trans n_j
  replace c_9 := hc10 _ _ (offC 9 11 rfl rfl (by decide)) c_9
  replace mh := hk10.list mh
  replace mv := hk10.list mv
  replace pf := pf.k5 hk10
  replace pg := pg.k5 hk10
  replace pt := pt.k5 hk10
  replace lx := lx.k5 hk10
  replace ly := ly.k5 hk10
  replace lt := lt.k5 hk10
  replace n_f := (hm10 _ rfl).trans n_f
  replace n_g := (hm10 _ rfl).trans n_g
  replace c_10 := hc10 _ _ (offC 10 11 rfl rfl (by decide)) c_10
  have c_11 := R10
  obtain ⟨v12, c_12⟩ := H10.co inC12
  obtain ⟨v6, c_6⟩ := H10.co inC6
  obtain ⟨uq, un9, ur, uv, uo, u1, u2, ug, ul, ui, UH, us, ut, uh⟩ := id H10
  refine step_S5 (ybif _ rfl _ rfl w mean mg mb dp un gd a ccd outer A₀ base h₀ L _ _ E _ sl rg lr lh lv n q tn tq svs vsr sns rs kr B hS X T hdp hun hsi hsb hsl hC1 hC2 u1 u2 G10 uq un9 ur uv h1n hn hq hq2 hro ug ul ui us ut uh vf vg fcs gcs xs ys n_f n_g pf pg wx wy lx ly c_10 c_11 evf evg xm tm hbm c_8 v12 c_12 xa ta hba c_7 v6 c_6 ut k3 t3 hk3 c_9 hvs wvs kh kv mh mv vt wt tcs ts et1 et2 pt lt evt op top hop n_op F10 N10) ?_
  intro m11 nw11 s11 F11 N11 hk11 hc11 t111 t211 hm11 G11 hos11 R11
  have H11 := H10.step hk11 hc11 sub612 t111 t211 (hm11 _ rfl) (hm11 _ rfl) (hm11 _ rfl)
  have O11 := hos11.trans O10
  replace hI0 := hk11.1 _ hI0 hI1 hI2
  replace n_r := (hm11 _ rfl).trans n_r
  replace n_op := (hm11 _ rfl).trans n_op
  replace c_7 := hc11 _ _ (offE 7 rfl rfl) c_7
  replace c_8 := hc11 _ _ (offE 8 rfl rfl) c_8
  replace n_i := (hm11 _ rfl).trans n_i
  replace n_j := (hm11 _ rfl).trans n_j
  replace c_9 := hc11 _ _ (offE 9 rfl rfl) c_9
  replace mh := hk11.list mh
  replace mv := hk11.list mv
  replace pf := pf.k5 hk11
  replace pg := pg.k5 hk11
  replace pt := pt.k5 hk11
  replace lx := lx.k5 hk11
  replace ly := ly.k5 hk11
  replace lt := lt.k5 hk11
  replace n_f := (hm11 _ rfl).trans n_f
  replace n_g := (hm11 _ rfl).trans n_g
  replace c_10 := hc11 _ _ (offE 10 rfl rfl) c_10
  replace c_11 := hc11 _ _ (offE 11 rfl rfl) c_11
  obtain ⟨vn, wn, ncs, nxs, n_n, n_v, pn, ln, evn⟩ := R11
  obtain ⟨uq, un9, ur, uv, uo, u1, u2, ug, ul, ui, UH, us, ut, uh⟩ := id H11
  refine step_S5 (ybl11 _ rfl _ rfl w mean mg mb dp un gd a ccd outer A₀ base h₀ L _ _ E _ sl rg lr lh lv n q tn tq svs vsr sns rs kr B hS X T hdp hun hsi hsb hsl hC1 hC2 u1 u2 G11 uq un9 ur uv h1n hn hq hq2 hro ug ul ui us ut uh vn wn ncs nxs n_n n_v pn ln evn F11 N11) ?_
  intro m12 nw12 s12 F12 N12 hk12 hc12 t112 t212 hm12 G12 hos12 R12
  have H12 := H11.step hk12 hc12 sub0 t112 t212 (hm12 _ rfl) (hm12 _ rfl) (hm12 _ rfl)
  have O12 := hos12.trans O11
  replace hI0 := hk12.1 _ hI0 hI1 hI2
  replace n_r := (hm12 _ rfl).trans n_r
  replace n_op := (hm12 _ rfl).trans n_op
  replace c_7 := hc12 _ _ (fun h => nomatch h) c_7
  replace c_8 := hc12 _ _ (fun h => nomatch h) c_8
  replace n_i := (hm12 _ rfl).trans n_i
  replace n_j := (hm12 _ rfl).trans n_j
  replace c_9 := hc12 _ _ (fun h => nomatch h) c_9
  replace mh := hk12.list mh
  replace mv := hk12.list mv
  replace pf := pf.k5 hk12
  replace pg := pg.k5 hk12
  replace pt := pt.k5 hk12
  replace lx := lx.k5 hk12
  replace ly := ly.k5 hk12
  replace lt := lt.k5 hk12
  replace n_f := (hm12 _ rfl).trans n_f
  replace n_g := (hm12 _ rfl).trans n_g
  replace c_10 := hc12 _ _ (fun h => nomatch h) c_10
  replace c_11 := hc12 _ _ (fun h => nomatch h) c_11
  replace n_n := (hm12 _ rfl).trans n_n
  replace n_v := (hm12 _ rfl).trans n_v
  replace pn := pn.k5 hk12
  replace ln := ln.k5 hk12
  obtain ⟨uq, un9, ur, uv, uo, u1, u2, ug, ul, ui, UH, us, ut, uh⟩ := H12
  refine wpAny_mono (ybl12 _ rfl _ rfl w mean mg mb dp un gd a ccd outer A₀ base h₀ L _ _ E _ sl rg lr lh lv n q tn tq svs vsr sns rs kr B hS X T hdp hun hsi hsb hsl hC1 hC2 u1 u2 G12 uq un9 ur uv h1n hn hq hq2 hro ug ul ui us ut uh vn wn ncs nxs n_n n_v pn ln evn k3 t3 hk3 c_9 UH I oI hI0 hI1 hI2 hI3 uo F12 N12) (fun _ _ h => h.os' O12) fun _ _ e => e
theorem walkOff55 : True := by
  w_top off
  trivial
set_option maxHeartbeats 4000000 in
theorem ylw7 (st : Stmt) (hst : lawStmt? PySem.Challenge.rw_xy0002_05.row.toRowW.prog 7 = some st)
    (scope : Scope) (hsc : lawScope? PySem.Challenge.rw_xy0002_05.row.toRowW.prog = some scope)
    (w : World) (mean : ExcName → Option Value) (mg mb : Str → Option Value) (dp un : Nat) (gd : Option (List Code)) (a : Addr) (ccd : Value) (outer : List Env) (A₀ : Around) (base h₀ : Heap) (L : Addr) (m : Str → Option Value) (s : Shared) (E : Value → Shared → Prop) (news : Led)
    (sl rg lr lh lv : Addr) (n : Nat) (q : Int) (tn tq : Tok) (svs vsr : List Value) (sns rs : List Int) (kr : Nat)
    (B : Below A₀ base outer h₀) (hS : base.IsList sl svs.toArray) (X : (hd05.heap_39 w.params).In h₀) (T : Top topProg (looseW Mine05.view [] ++ (recsOf Mine05.view).map (·.name) ++ (litsOf Mine05.view).map (·.1) ++ (clssOf Mine05.view (looseW Mine05.view [])).map (·.name)) mean mg mb h₀) (hdp : dp + 100 < recursionLimit) (hun : un + 800 < cLine)
    (hsi : IntsAre svs sns) (hsb : ∀ x ∈ sns, Builtin.Int.intBits x ≤ 2 ^ 20) (hsl : sns.length ≤ 63)
    (hC1 : CodeHd h₀ 238 234) (hC2 : CodeHd h₀ 243 241) (hG : AllBare s.gens)
    (h1n : 1 ≤ n) (hn : n ≤ 8) (hq : 2 ≤ q) (hq2 : q ≤ 256) (hro : RootsOk q n rs)
    (H0 : LI (fun _ => Ev q n rs) L q n tq tn rs vsr kr sl rg lr lh lv 3 m news) (F : Fr h₀ L s.heap m) (N : News h₀ L s.heap news) :
    wpAny (model PySem.Challenge.rw_xy0002_05.row.toRowW.prog w) (ktrTop dp un gd (Str.ofString "law") scope L a ccd [(Str.ofString "e", L + 1 + 1 + 1 + 1 + 1 + 1 + 1 + 1 + 1 + 1 + 1 + 1), (Str.ofString "y", L + 1 + 1 + 1 + 1 + 1 + 1 + 1 + 1 + 1 + 1 + 1), (Str.ofString "x", L + 1 + 1 + 1 + 1 + 1 + 1 + 1 + 1 + 1 + 1), (Str.ofString "t", L + 1 + 1 + 1 + 1 + 1 + 1 + 1 + 1 + 1), (Str.ofString "m", L + 1 + 1 + 1 + 1 + 1 + 1 + 1 + 1), (Str.ofString "a", L + 1 + 1 + 1 + 1 + 1 + 1 + 1), (Str.ofString "row", L + 1 + 1 + 1 + 1 + 1 + 1), (Str.ofString "z", L + 1 + 1 + 1 + 1 + 1), (Str.ofString "vals", L + 1 + 1 + 1 + 1), (Str.ofString "roots", L + 1 + 1 + 1), (Str.ofString "n", L + 1 + 1), (Str.ofString "q", L + 1)] outer) (exec st (envX (Str.ofString "law") scope L a ccd [(Str.ofString "e", L + 1 + 1 + 1 + 1 + 1 + 1 + 1 + 1 + 1 + 1 + 1 + 1), (Str.ofString "y", L + 1 + 1 + 1 + 1 + 1 + 1 + 1 + 1 + 1 + 1 + 1), (Str.ofString "x", L + 1 + 1 + 1 + 1 + 1 + 1 + 1 + 1 + 1 + 1), (Str.ofString "t", L + 1 + 1 + 1 + 1 + 1 + 1 + 1 + 1 + 1), (Str.ofString "m", L + 1 + 1 + 1 + 1 + 1 + 1 + 1 + 1), (Str.ofString "a", L + 1 + 1 + 1 + 1 + 1 + 1 + 1), (Str.ofString "row", L + 1 + 1 + 1 + 1 + 1 + 1), (Str.ofString "z", L + 1 + 1 + 1 + 1 + 1), (Str.ofString "vals", L + 1 + 1 + 1 + 1), (Str.ofString "roots", L + 1 + 1 + 1), (Str.ofString "n", L + 1 + 1), (Str.ofString "q", L + 1)])) (LP h₀ L s (LI (fun _ => Ev q n rs) L q n tq tn rs vsr kr sl rg lr lh lv 3)) E s := by
  obtain rfl : _ = st := Option.some.inj (hst : some _ = some st)
  obtain rfl : _ = scope := Option.some.inj (hsc : some _ = some scope)
  clear hst hsc
  obtain ⟨uq, un9, ur, uv, uo, u1, u2, ug, ul, ui, UH, hm_s, ut, uh⟩ := id H0
  revert X; k_fill; intro X
  k_lift B
  refine For_G (h₀ := h₀) (by rfl) (by rfl) ?_ (by intro _; rfl)
  k_steps
  rename IsRange _ _ _ _ _ _ _ _ => hrg
  rename Fr _ _ _ _ => F1
  rename News _ _ _ _ => N1
  have hls : svs.length = sns.length := hsi.length
  obtain ⟨cnt, ec, hc27⟩ : ∃ cnt : Nat, (6 : Int) + Int.fdiv ((sns.length : Nat) : Int) 3 = (cnt : Int) ∧ cnt ≤ 27 := by
    rw [Int.fdiv_eq_ediv_of_nonneg _ (by decide)]
    exact ⟨6 + sns.length / 3, by omega, by omega⟩
  rw [ec] at hrg
  refine FSrcG.of (n := cnt) (fun _ _ _ m nw => LI (fun _ => Ev q n rs) L q n tq tn rs vsr kr sl rg lr lh lv 3 m nw) rfl F1 N1 hrg (by omega) hG H0 (fun i t I oI m₁ nw s' E' hi hR F' N' off hI1 hI2 hI3 _ G' hos => ?turn) (fun m₁ nw s' hR F' N' G' hos => ⟨rfl, m₁, nw, F', N', G', hos, hR⟩)
  case turn =>
    have hR9 := hR
    obtain ⟨_, _, _, _, _, t1, t2, _⟩ := hR9
    have hsub : Sub nw ((I, oI) :: nw) := fun p hp => List.mem_cons_of_mem _ hp
    have hR2 := hR.step (m' := fun y => if y = Str.ofString "r" then some (.int (i : Int) t) else m₁ y) (K5.of_sub hsub) (KC.of_sub (cs := []) hsub) (fun c hc => absurd hc List.not_mem_nil) (t1.mono hsub) (t2.mono hsub) (if_neg (by decide)) (if_neg (by decide)) (if_neg (by decide))
    refine wpAny_mono (yturn _ rfl _ rfl w mean mg mb dp un gd a ccd outer A₀ base h₀ L _ s' E' ((I, oI) :: nw) sl rg lr lh lv n q tn tq svs vsr sns rs kr B hS X T hdp hun hsi hsb hsl hC1 hC2 G' h1n hn hq hq2 hro I oI List.mem_cons_self hI1 hI2 hI3 hR2 i t (by omega) (if_pos rfl) F' N') (fun _ _ h => h.os' hos) fun _ _ e => e
theorem walkOff56 : True := by
  w_top off
  trivial
theorem up8 {h₀ h : Heap} {L df I : Addr} {oI : Obj} {nw : Led} {x1 x2 x3 : Addr × Obj} (_ : News h₀ L h (x1 :: x2 :: x3 :: offP df ((I, oI) :: nw))) : ∀ a o, (a, o) ∈ nw → a ≠ df → (a, o) ∈ x1 :: x2 :: x3 :: offP df ((I, oI) :: nw) :=
  fun _ _ hm hn => List.mem_cons_of_mem _ (List.mem_cons_of_mem _ (List.mem_cons_of_mem _ (mem_offP (List.mem_cons_of_mem _ hm) hn)))
theorem mem8 {h₀ h : Heap} {L df I : Addr} {oI : Obj} {nw : Led} {x1 x2 x3 : Addr × Obj} (_ : News h₀ L h (x1 :: x2 :: x3 :: offP df ((I, oI) :: nw))) (hne : df ≠ I) : (I, oI) ∈ x1 :: x2 :: x3 :: offP df ((I, oI) :: nw) :=
  List.mem_cons_of_mem _ (List.mem_cons_of_mem _ (List.mem_cons_of_mem _ (mem_offP List.mem_cons_self (fun e => hne e.symm))))
theorem LI.redd {h₀ h : Heap} {L : Addr} {m m2 : Str → Option Value} {nw A : Led} {q : Int} {n : Nat} {tq tn : Tok} {rs : List Int} {vsr : List Value} {kr i kh cf cf2 k : Nat} {sl rg lr lh lv f df D l : Addr} {hvs vs ys : List Value} {cs : List Int} {h3 h4 h5 h6 : Int} {k3 k4 k5 k6 : Tok} (hq : 2 ≤ q) (hq2 : q ≤ 256) (N : News h₀ L h nw)
    (R : LI (fun i' cs xs => Ev q n rs cs xs ∧ (i' < i → cs.map (fun c => Int.fmod c q) = cs)) L q n tq tn rs vsr kr sl rg lr lh lv 3 m nw) (mh : (lh, W.listOf hvs.toArray kh) ∈ nw) (e1 : hvs[i]? = some (.ref f)) (hp1 : (f, instObj 220 df) ∈ nw)
    (hd : (df, W.dictOf [⟨h3, .str (Str.ofString "parent") k3, .ref rg⟩, ⟨h4, .str (Str.ofString "coeffs") k4, .ref l⟩] cf) ∈ nw) (hl : (l, W.listOf vs.toArray k) ∈ nw) (hi : IntsAre vs cs)
    (up : ∀ a o, (a, o) ∈ nw → a ≠ df → (a, o) ∈ A) (hD : (D, LCg.lst ys) ∈ A) (hy : IntsAre ys (cs.map fun c => Int.fmod c q)) (hd2 : (df, W.dictOf [⟨h5, .str (Str.ofString "parent") k5, .ref rg⟩, ⟨h6, .str (Str.ofString "coeffs") k6, .ref D⟩] cf2) ∈ A)
    (q1 : m2 (Str.ofString "script") = m (Str.ofString "script")) (q2 : m2 (Str.ofString "ring") = m (Str.ofString "ring")) (q3 : m2 (Str.ofString "have") = m (Str.ofString "have")) :
    LI (fun i' cs xs => Ev q n rs cs xs ∧ (i' < i + 1 → cs.map (fun c => Int.fmod c q) = cs)) L q n tq tn rs vsr kr sl rg lr lh lv 3 m2 A := by
  obtain ⟨hcq, hcn, hcr, hcv, hco, t1, t2, hr, hmr, hir, ⟨hvs', wvs, kh', kv, l1, l2, mh', mv, hp⟩, hs, hg, hh⟩ := R
  have uc : ∀ a o, (a, o) ∈ nw → o ≠ W.dictOf [⟨h3, .str (Str.ofString "parent") k3, .ref rg⟩, ⟨h4, .str (Str.ofString "coeffs") k4, .ref l⟩] cf → (a, o) ∈ A := fun a o hm hn => up a o hm (ob_ne (N _ hd).1 (N _ hm).1 hn)
  have kc : ∀ {c v}, Cell nw c v → Cell A c v := fun ⟨o, hm, hd⟩ => ⟨o, uc _ _ hm (by rintro rfl; cases hd), hd⟩
  have kt : ∀ {P}, Tab P nw → Tab P A := fun ⟨ps, hm, ht⟩ => ⟨ps, uc _ _ hm (by rintro ⟨⟩), ht⟩
  have kl : ∀ {l9 vs9 k9}, (l9, W.listOf (List.toArray vs9) k9) ∈ nw → (l9, W.listOf (List.toArray vs9) k9) ∈ A := fun hm => uc _ _ hm (cls_ne (c := .type "list") (c' := .type "dict") rfl rfl (by decide))
  refine RingIn.elim hr ?_
  clear hr
  intro d9 h1 k1 h2 k2 tq' tn' c m1 m2'
  refine ⟨kc hcq, kc hcn, kc hcr, kc hcv, fun c hcc => let ⟨v, z⟩ := hco c hcc; ⟨v, kc z⟩, kt t1, kt t2, ⟨d9, h1, k1, h2, k2, tq', tn', c, uc _ _ m1 (by rintro ⟨⟩), uc _ _ m2' dict_ne⟩, kl hmr, hir, ⟨hvs', wvs, kh', kv, l1, l2, kl mh', kl mv, fun i' hi' => ?_⟩, q1.trans hs, q2.trans hg, q3.trans hh⟩
  obtain ⟨v, w, cs', xs, e1', e2, p, lw, ev, hred⟩ := hp i' hi'
  have lw' : ListIn A w xs := by
    obtain ⟨l9, vs9, k9, e9, m9, i9⟩ := lw
    exact ⟨l9, vs9, k9, e9, kl m9, i9⟩
  have e3 := congrArg Obj.data (Option.some.inj ((N _ mh').1.symm.trans (N _ mh).1))
  have e4 : Data.seq hvs'.toArray kh' = Data.seq hvs.toArray kh := e3
  injection e4 with e4 _
  obtain rfl : hvs' = hvs := by simpa using congrArg Array.toList e4
  rcases poly_red N hd hl hi hp1 up hD hy hd2 p with ⟨p', hv⟩ | ⟨rfl, p'⟩
  · refine ⟨v, w, cs', xs, e1', e2, p', lw', ev, fun h => hred ?_⟩
    rcases Nat.lt_succ_iff_lt_or_eq.mp h with h | h
    · exact h
    · subst h
      exact absurd (Option.some.inj (e1'.symm.trans e1)) hv
  · exact ⟨v, w, _, xs, e1', e2, p', lw', ev_red hq hq2 ev, fun _ => map_mod_mod q _⟩
set_option maxHeartbeats 4000000 in
theorem ylw8 (st : Stmt) (hst : lawStmt? PySem.Challenge.rw_xy0002_05.row.toRowW.prog 8 = some st)
    (scope : Scope) (hsc : lawScope? PySem.Challenge.rw_xy0002_05.row.toRowW.prog = some scope)
    (w : World) (mean : ExcName → Option Value) (mg mb : Str → Option Value) (dp un : Nat) (gd : Option (List Code)) (a : Addr) (ccd : Value) (outer : List Env) (A₀ : Around) (base h₀ : Heap) (L : Addr) (m : Str → Option Value) (s : Shared) (E : Value → Shared → Prop) (news : Led)
    (sl rg lr lh lv : Addr) (n : Nat) (q : Int) (tn tq : Tok) (svs vsr : List Value) (sns rs : List Int) (kr : Nat)
    (B : Below A₀ base outer h₀) (hS : base.IsList sl svs.toArray) (X : (hd05.heap_39 w.params).In h₀) (T : Top topProg (looseW Mine05.view [] ++ (recsOf Mine05.view).map (·.name) ++ (litsOf Mine05.view).map (·.1) ++ (clssOf Mine05.view (looseW Mine05.view [])).map (·.name)) mean mg mb h₀) (hdp : dp + 100 < recursionLimit) (hun : un + 800 < cLine)
    (hsi : IntsAre svs sns) (hsb : ∀ x ∈ sns, Builtin.Int.intBits x ≤ 2 ^ 20) (hsl : sns.length ≤ 63)
    (hC1 : CodeHd h₀ 238 234) (hC2 : CodeHd h₀ 243 241) (hG : AllBare s.gens)
    (h1n : 1 ≤ n) (hn : n ≤ 8) (hq : 2 ≤ q) (hq2 : q ≤ 256) (hro : RootsOk q n rs)
    (H0 : LI (fun _ => Ev q n rs) L q n tq tn rs vsr kr sl rg lr lh lv 3 m news) (F : Fr h₀ L s.heap m) (N : News h₀ L s.heap news) :
    wpAny (model PySem.Challenge.rw_xy0002_05.row.toRowW.prog w) (ktrTop dp un gd (Str.ofString "law") scope L a ccd [(Str.ofString "e", L + 1 + 1 + 1 + 1 + 1 + 1 + 1 + 1 + 1 + 1 + 1 + 1), (Str.ofString "y", L + 1 + 1 + 1 + 1 + 1 + 1 + 1 + 1 + 1 + 1 + 1), (Str.ofString "x", L + 1 + 1 + 1 + 1 + 1 + 1 + 1 + 1 + 1 + 1), (Str.ofString "t", L + 1 + 1 + 1 + 1 + 1 + 1 + 1 + 1 + 1), (Str.ofString "m", L + 1 + 1 + 1 + 1 + 1 + 1 + 1 + 1), (Str.ofString "a", L + 1 + 1 + 1 + 1 + 1 + 1 + 1), (Str.ofString "row", L + 1 + 1 + 1 + 1 + 1 + 1), (Str.ofString "z", L + 1 + 1 + 1 + 1 + 1), (Str.ofString "vals", L + 1 + 1 + 1 + 1), (Str.ofString "roots", L + 1 + 1 + 1), (Str.ofString "n", L + 1 + 1), (Str.ofString "q", L + 1)] outer) (exec st (envX (Str.ofString "law") scope L a ccd [(Str.ofString "e", L + 1 + 1 + 1 + 1 + 1 + 1 + 1 + 1 + 1 + 1 + 1 + 1), (Str.ofString "y", L + 1 + 1 + 1 + 1 + 1 + 1 + 1 + 1 + 1 + 1 + 1), (Str.ofString "x", L + 1 + 1 + 1 + 1 + 1 + 1 + 1 + 1 + 1 + 1), (Str.ofString "t", L + 1 + 1 + 1 + 1 + 1 + 1 + 1 + 1 + 1), (Str.ofString "m", L + 1 + 1 + 1 + 1 + 1 + 1 + 1 + 1), (Str.ofString "a", L + 1 + 1 + 1 + 1 + 1 + 1 + 1), (Str.ofString "row", L + 1 + 1 + 1 + 1 + 1 + 1), (Str.ofString "z", L + 1 + 1 + 1 + 1 + 1), (Str.ofString "vals", L + 1 + 1 + 1 + 1), (Str.ofString "roots", L + 1 + 1 + 1), (Str.ofString "n", L + 1 + 1), (Str.ofString "q", L + 1)])) (LP h₀ L s (LI (fun _ cs xs => Ev q n rs cs xs ∧ cs.map (fun c => Int.fmod c q) = cs) L q n tq tn rs vsr kr sl rg lr lh lv 3)) E s := by
  obtain rfl : _ = st := Option.some.inj (hst : some _ = some st)
  obtain rfl : _ = scope := Option.some.inj (hsc : some _ = some scope)
  clear hst hsc
  revert X; k_fill; intro X
  refine For_G (h₀ := h₀) (by rfl) (by rfl) ?_ (by intro _; rfl)
  k_steps
  rename IsRange _ _ _ _ _ _ _ _ => hrg
  rename Fr _ _ _ _ => F1
  rename News _ _ _ _ => N1
  refine FSrcG.of (n := 3) (fun _ _ s9 m nw => LI (fun i cs xs => Ev q n rs cs xs ∧ (i < s9 → cs.map (fun c => Int.fmod c q) = cs)) L q n tq tn rs vsr kr sl rg lr lh lv 3 m nw) rfl F1 N1 hrg (by omega) hG (H0.imp fun i cs xs h => ⟨h, fun h => absurd h (Nat.not_lt_zero _)⟩) (fun i t I oI m₁ nw s' E' hi hR F' N' off hI1 hI2 hI3 _ G' hos => ?turn) (fun m₁ nw s' hR F' N' G' hos => ⟨rfl, m₁, nw, F', N', G', hos, hR.impk fun i hi cs xs h => ⟨h.1, h.2 hi⟩⟩)
  case turn =>
    have hsub : Sub nw ((I, oI) :: nw) := fun p hp => List.mem_cons_of_mem _ hp
    obtain ⟨uq, un9, ur, uv, uo, u1, u2, ug, hmr, hir, UH, us, ut, uh⟩ := id hR
    obtain ⟨hvs, wvs, kh, kv, l1, l2, mh, mv9, hp⟩ := UH
    obtain ⟨v, w9, cs, xs, e1, e2, pv, lw, ev, hred⟩ := hp i hi
    obtain ⟨oq, mq, xq⟩ := uq
    obtain ⟨or, mr, xr⟩ := ur
    obtain ⟨ov, mv, xv⟩ := uv
    obtain ⟨ps2, hP2, ht2⟩ := u2
    obtain ⟨ps1, hP1, ht1⟩ := u1
    have hlr : rs.length = n := hro.len
    have hlx := ev.lenx hro
    have hlc := ev.len
    have hbc := ev.bd
    have hms : (fun y => if y = Str.ofString "s" then some (Value.int (i : Int) t) else m₁ y) (Str.ofString "s") = some (.int (i : Int) t) := if_pos rfl
    have hmh : (fun y => if y = Str.ofString "s" then some (Value.int (i : Int) t) else m₁ y) (Str.ofString "have") = some (.ref lh) := (if_neg (by decide)).trans uh
    obtain ⟨f, df, h3, k3, h4, k4, l, vs, k, cf, rfl, hp1, hp2, hp3, hi9⟩ := pv
    have q1 : (fun y => if y = Str.ofString "s" then some (Value.int (i : Int) t) else m₁ y) (Str.ofString "script") = m₁ (Str.ofString "script") := if_neg (by decide)
    have q2 : (fun y => if y = Str.ofString "s" then some (Value.int (i : Int) t) else m₁ y) (Str.ofString "ring") = m₁ (Str.ofString "ring") := if_neg (by decide)
    have q3 : (fun y => if y = Str.ofString "s" then some (Value.int (i : Int) t) else m₁ y) (Str.ofString "have") = m₁ (Str.ofString "have") := if_neg (by decide)
    generalize (fun y => if y = Str.ofString "s" then some (Value.int (i : Int) t) else m₁ y) = m2 at F' hms hmh q1 q2 q3
    obtain ⟨dr, h1r, k1r, h2r, k2r, tqr, tnr, cr, hr1, hr2⟩ := id ug
    have hoff : ∀ {a o}, (a, o) ∈ nw → a ≠ df → (a, o) ∈ offP df ((I, oI) :: nw) := fun hm hne => mem_offP (hsub _ hm) hne
    have hall : ∀ p ∈ offP df ((I, oI) :: nw), p.1 ≠ df := fun p hp => (of_offP hp).2
    have N₂ : News h₀ L s'.heap ((df, W.dictOf [⟨h3, .str (Str.ofString "parent") k3, .ref rg⟩, ⟨h4, .str (Str.ofString "coeffs") k4, .ref l⟩] cf) :: offP df ((I, oI) :: nw)) := fun p hp => by
      rcases List.mem_cons.mp hp with rfl | hp
      · exact N' _ (hsub _ hp2)
      · exact N' _ (of_offP hp).1
    have uo := fun {a o} (hm : (a, o) ∈ nw) (hn : o ≠ W.dictOf [⟨h3, .str (Str.ofString "parent") k3, .ref rg⟩, ⟨h4, .str (Str.ofString "coeffs") k4, .ref l⟩] cf) => hoff hm (ob_ne (N' _ (hsub _ hp2)).1 (N' _ (hsub _ hm)).1 hn)
    have a1 := uo hp1 (by rintro ⟨⟩)
    have a3 := uo hp3 (cls_ne (c := .type "list") (c' := .type "dict") rfl rfl (by decide))
    have b1 := uo hr1 (by rintro ⟨⟩)
    have b2 := uo hr2 dict_ne
    have b3 := uo mh (cls_ne (c := .type "list") (c' := .type "dict") rfl rfl (by decide))
    have uo9 : True → ∀ {a o}, (a, o) ∈ nw → o ≠ _ → (a, o) ∈ _ := fun _ => uo
    have hoff9 : True → ∀ {a o}, (a, o) ∈ nw → a ≠ df → (a, o) ∈ _ := fun _ => hoff
    clear uo hoff
    clear F1 N1
    generalize hrest : offP df ((I, oI) :: nw) = rest at *
    have N9 : True → News h₀ L s'.heap ((I, oI) :: nw) := fun _ => N'
    clear N'
    refine wpAny_execs_cons ?_
    refine wpAny_Expr_any (MethodCall_ (Subscript_ (wpAny_Name (loadName_L F' hmh (wpAny_Name (loadName_L F' hms (item_L N₂ (List.mem_cons_of_mem _ b3) e1 (by omega) ?_) rfl rfl)) rfl rfl))))
    k_steps
    have x1 : df < _ := (‹df < _ ∧ AllLt _ _›).1
    have x2 : df ≠ _ := (‹_ ≠ _ ∧ df ≠ _ ∧ LCg.Off1 _ _›).2.1
    k_here
    refine' set_dict ?k1 ?k2 ?k3 ?k4 ?k5 ?k6 ?k7 ?k8 ?k9 ?k10 ?k11 ?k12 ?k13 ?_
    (case k1 => k_asm)
    (case k2 => k_asm)
    (case k3 => k_asm)
    (case k4 => k_inst)
    (case k5 => exact rfl)
    (case k6 => k_is)
    (case k7 => k_is)
    (case k8 => k_is)
    (case k9 => k_is)
    (case k10 => k_get)
    (case k11 => exact put2 rfl rfl)
    (case k12 => exact Upd.tail (Ne.symm x2) (Upd.tail (by exact lt_ne_succ x1) (Upd.head hall)))
    (case k13 => exact Nat.le_of_ble_eq_true rfl)
    intro h' F' N'
    (try dsimp only at N')
    (try k_sweep)
    k_steps
    rename News h₀ L _ ((_, LCg.lst ys) :: _) => kN9
    rename Fr h₀ L _ m2 => kF9
    subst hrest
    have hIdf : df ≠ I := off _ hp2
    have mI := mem8 kN9 hIdf
    have NW : News h₀ L _ nw := fun p hp => N9 trivial _ (List.mem_cons_of_mem _ hp)
    have hK := LI.redd hq hq2 NW hR mh e1 hp1 hp2 hp3 hi9 (up8 kN9) List.mem_cons_self (by assumption) (List.mem_cons_of_mem _ (List.mem_cons_of_mem _ List.mem_cons_self)) q1 q2 q3
    refine ⟨m2, offP I _, _, rfl, kF9, kN9, mI, fun p hp => (of_offP hp).1, fun p hp => (of_offP hp).2, G', hos, hK.restI hI1 hI2 hI3 fun a o hm hn => mem_offP hm (ob_ne (kN9 _ mI).1 (kN9 _ hm).1 hn)⟩
theorem walkOff57 : True := by
  w_top off
  trivial
set_option maxHeartbeats 4000000 in
theorem ylw9 (st : Stmt) (hst : lawStmt? PySem.Challenge.rw_xy0002_05.row.toRowW.prog 9 = some st)
    (scope : Scope) (hsc : lawScope? PySem.Challenge.rw_xy0002_05.row.toRowW.prog = some scope)
    (w : World) (mean : ExcName → Option Value) (mg mb : Str → Option Value) (dp un : Nat) (gd : Option (List Code)) (a : Addr) (ccd : Value) (outer : List Env) (A₀ : Around) (base h₀ : Heap) (L : Addr) (m : Str → Option Value) (s : Shared) (E : Value → Shared → Prop) (news : Led)
    (sl rg lr lh lv : Addr) (n : Nat) (q : Int) (tn tq : Tok) (svs vsr : List Value) (sns rs : List Int) (kr : Nat)
    (B : Below A₀ base outer h₀) (hS : base.IsList sl svs.toArray) (X : (hd05.heap_39 w.params).In h₀) (T : Top topProg (looseW Mine05.view [] ++ (recsOf Mine05.view).map (·.name) ++ (litsOf Mine05.view).map (·.1) ++ (clssOf Mine05.view (looseW Mine05.view [])).map (·.name)) mean mg mb h₀) (hdp : dp + 100 < recursionLimit) (hun : un + 800 < cLine)
    (hsi : IntsAre svs sns) (hsb : ∀ x ∈ sns, Builtin.Int.intBits x ≤ 2 ^ 20) (hsl : sns.length ≤ 63)
    (hC1 : CodeHd h₀ 238 234) (hC2 : CodeHd h₀ 243 241) (hG : AllBare s.gens)
    (h1n : 1 ≤ n) (hn : n ≤ 8) (hq : 2 ≤ q) (hq2 : q ≤ 256) (hro : RootsOk q n rs)
    (H0 : LI (fun _ cs xs => Ev q n rs cs xs ∧ cs.map (fun c => Int.fmod c q) = cs) L q n tq tn rs vsr kr sl rg lr lh lv 3 m news) (F : Fr h₀ L s.heap m) (N : News h₀ L s.heap news) :
    wpAny (model PySem.Challenge.rw_xy0002_05.row.toRowW.prog w) (ktrTop dp un gd (Str.ofString "law") scope L a ccd [(Str.ofString "e", L + 1 + 1 + 1 + 1 + 1 + 1 + 1 + 1 + 1 + 1 + 1 + 1), (Str.ofString "y", L + 1 + 1 + 1 + 1 + 1 + 1 + 1 + 1 + 1 + 1 + 1), (Str.ofString "x", L + 1 + 1 + 1 + 1 + 1 + 1 + 1 + 1 + 1 + 1), (Str.ofString "t", L + 1 + 1 + 1 + 1 + 1 + 1 + 1 + 1 + 1), (Str.ofString "m", L + 1 + 1 + 1 + 1 + 1 + 1 + 1 + 1), (Str.ofString "a", L + 1 + 1 + 1 + 1 + 1 + 1 + 1), (Str.ofString "row", L + 1 + 1 + 1 + 1 + 1 + 1), (Str.ofString "z", L + 1 + 1 + 1 + 1 + 1), (Str.ofString "vals", L + 1 + 1 + 1 + 1), (Str.ofString "roots", L + 1 + 1 + 1), (Str.ofString "n", L + 1 + 1), (Str.ofString "q", L + 1)] outer) (exec st (envX (Str.ofString "law") scope L a ccd [(Str.ofString "e", L + 1 + 1 + 1 + 1 + 1 + 1 + 1 + 1 + 1 + 1 + 1 + 1), (Str.ofString "y", L + 1 + 1 + 1 + 1 + 1 + 1 + 1 + 1 + 1 + 1 + 1), (Str.ofString "x", L + 1 + 1 + 1 + 1 + 1 + 1 + 1 + 1 + 1 + 1), (Str.ofString "t", L + 1 + 1 + 1 + 1 + 1 + 1 + 1 + 1 + 1), (Str.ofString "m", L + 1 + 1 + 1 + 1 + 1 + 1 + 1 + 1), (Str.ofString "a", L + 1 + 1 + 1 + 1 + 1 + 1 + 1), (Str.ofString "row", L + 1 + 1 + 1 + 1 + 1 + 1), (Str.ofString "z", L + 1 + 1 + 1 + 1 + 1), (Str.ofString "vals", L + 1 + 1 + 1 + 1), (Str.ofString "roots", L + 1 + 1 + 1), (Str.ofString "n", L + 1 + 1), (Str.ofString "q", L + 1)])) (LP h₀ L s (fun _ nw => Tab 234 nw ∧ Tab 241 nw)) E s := by
  obtain rfl : _ = st := Option.some.inj (hst : some _ = some st)
  obtain rfl : _ = scope := Option.some.inj (hsc : some _ = some scope)
  clear hst hsc
  revert X; k_fill; intro X
  refine For_G (h₀ := h₀) (by rfl) (by rfl) ?_ (by intro _; rfl)
  k_steps
  rename IsRange _ _ _ _ _ _ _ _ => hrg
  rename Fr _ _ _ _ => F1
  rename News _ _ _ _ => N1
  refine FSrcG.of (n := 3) (fun _ _ _ m nw => LI (fun _ cs xs => Ev q n rs cs xs ∧ cs.map (fun c => Int.fmod c q) = cs) L q n tq tn rs vsr kr sl rg lr lh lv 3 m nw) rfl F1 N1 hrg (by omega) hG H0 (fun i t I oI m₁ nw s' E' hi hR F' N' off hI1 hI2 hI3 _ G' hos => ?turn) (fun m₁ nw s' hR F' N' G' hos => ⟨rfl, m₁, nw, F', N', G', hos, by obtain ⟨_, _, _, _, _, t1, t2, _⟩ := hR; exact ⟨t1, t2⟩⟩)
  case turn =>
    have hsub : Sub nw ((I, oI) :: nw) := fun p hp => List.mem_cons_of_mem _ hp
    obtain ⟨uq, un9, ur, uv, uo, u1, u2, ug, hmr, hir, UH, us, ut, uh⟩ := id hR
    obtain ⟨hvs, wvs, kh, kv, l1, l2, mh, mv9, hp⟩ := UH
    obtain ⟨v, w9, cs, xs, e1, e2, pv, lw, ev, hred⟩ := hp i hi
    obtain ⟨oq, mq, xq⟩ := uq
    obtain ⟨or, mr, xr⟩ := ur
    obtain ⟨ov, mv, xv⟩ := uv
    obtain ⟨ps2, hP2, ht2⟩ := u2
    obtain ⟨ps1, hP1, ht1⟩ := u1
    have hlr : rs.length = n := hro.len
    have hlx := ev.lenx hro
    have hms : (fun y => if y = Str.ofString "s" then some (Value.int (i : Int) t) else m₁ y) (Str.ofString "s") = some (.int (i : Int) t) := if_pos rfl
    have hmh : (fun y => if y = Str.ofString "s" then some (Value.int (i : Int) t) else m₁ y) (Str.ofString "have") = some (.ref lh) := (if_neg (by decide)).trans uh
    obtain ⟨f, df, h3, k3, h4, k4, l, vs, k, cf, rfl, hp1, hp2, hp3, hi9⟩ := pv
    have q1 : (fun y => if y = Str.ofString "s" then some (Value.int (i : Int) t) else m₁ y) (Str.ofString "script") = m₁ (Str.ofString "script") := if_neg (by decide)
    have q2 : (fun y => if y = Str.ofString "s" then some (Value.int (i : Int) t) else m₁ y) (Str.ofString "ring") = m₁ (Str.ofString "ring") := if_neg (by decide)
    have q3 : (fun y => if y = Str.ofString "s" then some (Value.int (i : Int) t) else m₁ y) (Str.ofString "have") = m₁ (Str.ofString "have") := if_neg (by decide)
    generalize (fun y => if y = Str.ofString "s" then some (Value.int (i : Int) t) else m₁ y) = m2 at F' hms hmh q1 q2 q3
    refine wpAny_execs_cons (wpAny_If (wpAny_isTrue_Compare1 ?_))
    refine wpAny_mono (show wpAny _ _ _ (fun xv s₁ => xv = Value.ref l ∧ ∃ tk, s₁ = { s' with toks := tk }) E' s' from Attribute_any_ (Subscript_ (wpAny_Name (loadName_L F' hmh (wpAny_Name (loadName_L F' hms (item_L N' (hsub _ mh) e1 (by omega) ?_) rfl rfl)) rfl rfl)))) (fun xv s1 h => ?_) fun _ _ e => e
    · k_steps
    obtain ⟨rfl, tk0, rfl⟩ := h
    refine Call_ (Name_function_global (by rfl) (by rfl) (loadGlobal_global (show Heap.Ns _ mainGlobals mg from T.g.keeps F'.keep) (mg_of X T.g (by k_is)) ?_))
    refine callWith_K X (by k_is) ?_ (he := rfl) (hplain := rfl)
    refine args_cons (Subscript_ (wpAny_Name (wpAny_loadName_cell (by rfl) (by rfl) (by rfl) ⟨_, (N' _ (hsub _ mv)).1, xv⟩ (wpAny_Name (loadName_L F' hms (item_L N' (hsub _ mv9) e2 (by omega) ?_) rfl rfl)))))
    refine args_cons (wpAny_Name (wpAny_loadName_cell (by rfl) (by rfl) (by rfl) ⟨_, (N' _ (hsub _ mr)).1, xr⟩ ?_))
    refine args_cons (wpAny_Name (wpAny_loadName_cell (by rfl) (by rfl) (by rfl) ⟨_, (N' _ (hsub _ mq)).1, xq⟩ (args_nil ?_)))
    refine ⟨by k_in, wpAny_call ?_⟩
    refine SpecT.use (told_spec w mean mg mb ((I, oI) :: nw) w9 (.ref lr) xs rs q tq (lw.mono hsub) ⟨lr, vsr, kr, rfl, hsub _ hmr, hir⟩ (by omega) (by omega) (ev.rng (by omega)) (fun x hx => ⟨by have := hro.rng x hx; omega, (hro.rng x hx).2⟩) hq hq2 (by rw [hlr]; exact hro.nq)) B F' X N' (hsub _ hP2) ht2 hC2 G' T rfl (by omega) (by omega) fun r ps' nw3 s3 F3 N3 hs3 hP3 ht3 G3 hos3 hr3 => ?_
    obtain ⟨l', vs', k', rfl, m', i', n'⟩ := hr3
    have hs9 : ∀ p ∈ nw, p.1 ≠ 241 → p ∈ nw3 := fun p hp hne => hs3 p (hsub _ hp) hne
    have ml : (l, W.listOf vs.toArray k) ∈ nw3 := hs9 _ hp3 (ob_ne (N' _ (hsub _ hP2)).1 (N' _ (hsub _ hp3)).1 list_neT)
    refine ne_intsK (News.isList N3 ml) hi9 (News.isList N3 m') i' (by ktr_units) (wpAny_truthy_bool ?_)
    rw [ev_told hro hq ev, hred, if_neg (by simp)]
    refine wpAny_execs_nil (wpAny_execs_nil ?_)
    have hk9 : K5 nw nw3 := .ofT (newsTail N') hP2 hs9
    have hI3' : (I, oI) ∈ nw3 := hs3 _ List.mem_cons_self (Ne.symm (off _ hP2))
    have h9 := (hR.step (m' := m2) hk9 (.ofT (cs := []) (newsTail N') hP2 hs9) (fun c hc => absurd hc List.not_mem_nil) ⟨ps1, hs9 _ hP1 (show (234 : Addr) ≠ 241 by decide), ht1⟩ ⟨ps', hP3, ht3⟩ q1 q2 q3).restI hI1 hI2 hI3 (rest := offP I nw3) fun a o hm hn => mem_offP hm (ob_ne (N3 _ hI3').1 (N3 _ hm).1 hn)
    exact ⟨m2, offP I nw3, nw3, rfl, F3, N3, hI3', fun p hp => (of_offP hp).1, fun p hp => (of_offP hp).2, G3, hos3.trans hos, h9⟩
theorem walkOff58 : True := by
  w_top off
  trivial
theorem bd_row6 {x : Int} {u : Nat} (hx : Builtin.Int.intBits x ≤ 2 ^ 20) (hu : u < 8) : Bd (x * ((u : Int) + 1) + (u : Int)) := by
  rw [Int.mul_comm]
  have e : ((u : Int) + 1) * x + u = ((u : Int) + 1) * x - -(u : Int) := by rw [Int.sub_neg]
  rw [e]
  exact bits_sub (a := 2 ^ 20 + 4) (b := 64) (bits_mulc hx (by omega)) (intBits_le_64 (by omega) (by omega)) (by decide) (by decide)
theorem noInts1_refs {vs : List Value} (h : ∀ i, i < vs.length → ∃ a, vs[i]? = some (.ref a)) : NoInts1 vs := by
  intro ns hl hi
  cases hi with
  | nil => exact absurd hl (by decide)
  | cons n t hr =>
    obtain ⟨a, e⟩ := h 0 (Nat.succ_pos _)
    cases e
section
variable {h₀ h : Heap} {L : Addr} {q : Int} {n : Nat} {tq tn : Tok} {rs : List Int} {vsr hvs wvs : List Value} {kr kn kh kv : Nat} {sl rg lr lh lv : Addr} {m : Str → Option Value} {nw rest : Led} {v : Value} {cs : List Int}
theorem grow_in (N : News h₀ L h nw) (mh : (lh, W.listOf hvs.toArray kh) ∈ nw) (mv : (lv, W.listOf wvs.toArray kv) ∈ nw) (hin : ∀ a o, (a, o) ∈ nw → a ≠ lh → a ≠ lv → (∀ ps, o ≠ tabObj ps) → (a, o) ∈ rest) :
    ∀ a o, (a, o) ∈ nw → o ≠ W.listOf hvs.toArray kh → o ≠ W.listOf wvs.toArray kv → (∀ ps, o ≠ tabObj ps) → (a, o) ∈ rest := fun a o hm h1 h2 ht =>
  hin a o hm (ob_ne (N _ mh).1 (N _ hm).1 h1) (ob_ne (N _ mv).1 (N _ hm).1 h2) ht
theorem ListIn.grow (h : ListIn nw v cs) (n1 : NoInts1 hvs) (n2 : NoInts1 wvs) (hc : 1 ≤ cs.length) (hin : ∀ a o, (a, o) ∈ nw → o ≠ W.listOf hvs.toArray kh → o ≠ W.listOf wvs.toArray kv → (∀ ps, o ≠ tabObj ps) → (a, o) ∈ rest) : ListIn rest v cs := by
  obtain ⟨l, vs, k, e, m3, i⟩ := h
  exact ⟨l, vs, k, e, hin _ _ m3 (lists_ne1 i hc n1) (lists_ne1 i hc n2) (fun _ => list_neT), i⟩
theorem RingIn.grow (h : RingIn nw rg q n) (hin : ∀ a o, (a, o) ∈ nw → o ≠ W.listOf hvs.toArray kh → o ≠ W.listOf wvs.toArray kv → (∀ ps, o ≠ tabObj ps) → (a, o) ∈ rest) : RingIn rest rg q n := by
  refine RingIn.elim h ?_
  clear h
  intro d h1 k1 h2 k2 tq tn c m1 m2
  exact ⟨d, h1, k1, h2, k2, tq, tn, c, hin _ _ m1 (by rintro ⟨⟩) (by rintro ⟨⟩) (by rintro _ ⟨⟩), hin _ _ m2 (cls_ne (c := .type "dict") (c' := .type "list") rfl rfl (by decide)) (cls_ne (c := .type "dict") (c' := .type "list") rfl rfl (by decide)) (by rintro _ ⟨⟩)⟩
theorem PolyIn.grow (h : PolyIn nw v rg cs) (n1 : NoInts1 hvs) (n2 : NoInts1 wvs) (hc : 1 ≤ cs.length) (hin : ∀ a o, (a, o) ∈ nw → o ≠ W.listOf hvs.toArray kh → o ≠ W.listOf wvs.toArray kv → (∀ ps, o ≠ tabObj ps) → (a, o) ∈ rest) : PolyIn rest v rg cs := by
  obtain ⟨f, d, h1, k1, h2, k2, l, vs, k, c, e, m1, m2, m3, i⟩ := h
  exact ⟨f, d, h1, k1, h2, k2, l, vs, k, c, e, hin _ _ m1 (by rintro ⟨⟩) (by rintro ⟨⟩) (by rintro _ ⟨⟩), hin _ _ m2 (cls_ne (c := .type "dict") (c' := .type "list") rfl rfl (by decide)) (cls_ne (c := .type "dict") (c' := .type "list") rfl rfl (by decide)) (by rintro _ ⟨⟩), hin _ _ m3 (lists_ne1 i hc n1) (lists_ne1 i hc n2) (fun _ => list_neT), i⟩
theorem Cell.grow {c : Addr} {x : Option Value} (h : Cell nw c x) (hin : ∀ a o, (a, o) ∈ nw → o ≠ W.listOf hvs.toArray kh → o ≠ W.listOf wvs.toArray kv → (∀ ps, o ≠ tabObj ps) → (a, o) ∈ rest) : Cell rest c x := by
  obtain ⟨o, hm, hd⟩ := h
  exact ⟨o, hin _ _ hm (by rintro rfl; cases hd) (by rintro rfl; cases hd) (fun _ => cell_neT hd), hd⟩
theorem LI.grow {P : Nat → List Int → List Int → Prop} {w : Value} {xs : List Int} {kh' kv' : Nat} (N : News h₀ L h nw) (R : LI P L q n tq tn rs vsr kr sl rg lr lh lv kn m nw) (mh : (lh, W.listOf hvs.toArray kh) ∈ nw) (mv : (lv, W.listOf wvs.toArray kv) ∈ nw) (n1 : NoInts1 hvs) (n2 : NoInts1 wvs)
    (hin : ∀ a o, (a, o) ∈ nw → a ≠ lh → a ≠ lv → (∀ ps, o ≠ tabObj ps) → (a, o) ∈ rest) (t1 : Tab 234 rest) (t2 : Tab 241 rest) (hrs : 1 ≤ rs.length) (hP : ∀ i cs xs, P i cs xs → 1 ≤ cs.length ∧ 1 ≤ xs.length)
    (mh' : (lh, W.listOf (hvs ++ [v]).toArray kh') ∈ rest) (mv' : (lv, W.listOf (wvs ++ [w]).toArray kv') ∈ rest) (pv : PolyIn rest v rg cs) (lw : ListIn rest w xs) (pe : P kn cs xs) : LI P L q n tq tn rs vsr kr sl rg lr lh lv (kn + 1) m rest := by
  have hin2 := grow_in N mh mv hin
  obtain ⟨hcq, hcn, hcr, hcv, hco, _, _, hr, hmr, hir, ⟨hvs', wvs', kh9, kv9, l1, l2, mh9, mv9, hp⟩, hs, hg, hh⟩ := R
  have e4 : Data.seq hvs'.toArray kh9 = Data.seq hvs.toArray kh := congrArg Obj.data (Option.some.inj ((N _ mh9).1.symm.trans (N _ mh).1))
  injection e4 with e4 _
  obtain rfl : hvs' = hvs := by simpa using congrArg Array.toList e4
  have e5 : Data.seq wvs'.toArray kv9 = Data.seq wvs.toArray kv := congrArg Obj.data (Option.some.inj ((N _ mv9).1.symm.trans (N _ mv).1))
  injection e5 with e5 _
  obtain rfl : wvs' = wvs := by simpa using congrArg Array.toList e5
  refine ⟨hcq.grow hin2, hcn.grow hin2, hcr.grow hin2, hcv.grow hin2, fun c hc => let ⟨x, z⟩ := hco c hc; ⟨x, z.grow hin2⟩, t1, t2, hr.grow hin2, hin2 _ _ hmr (lists_ne1 hir hrs n1) (lists_ne1 hir hrs n2) (fun _ => list_neT), hir, ⟨_, _, kh', kv', by rw [List.length_append, l1]; rfl, by rw [List.length_append, l2]; rfl, mh', mv', fun i hi => ?_⟩, hs, hg, hh⟩
  rcases Nat.lt_succ_iff_lt_or_eq.mp hi with h9 | h9
  · obtain ⟨v', w', cs', xs', e1, e2, p, l, ev'⟩ := hp i h9
    have z := hP _ _ _ ev'
    exact ⟨v', w', cs', xs', by rw [List.getElem?_append_left (by omega)]; exact e1, by rw [List.getElem?_append_left (by omega)]; exact e2, p.grow n1 n2 z.1 hin2, l.grow n1 n2 z.2 hin2, ev'⟩
  · subst h9
    refine ⟨v, w, cs, xs, ?_, ?_, pv, lw, pe⟩
    · rw [List.getElem?_append_right (by omega), l1, Nat.sub_self]; rfl
    · rw [List.getElem?_append_right (by omega), l2, Nat.sub_self]; rfl
end
theorem step_SL5 {M : Model} {A : Around} {E : Value → Shared → Prop} {s : Shared} {env : Env} {st : Stmt} {rest : List Stmt} {Q : Flow → Shared → Prop} {h₀ : Heap} {L : Addr} {m : Str → Option Value} {news : Led} {l : Addr} {R : Led → Prop}
    (h1 : wpAny M A (exec st env) (SL5 h₀ L m news s l R) E s) (h2 : ∀ nw s', Fr h₀ L s'.heap m → News h₀ L s'.heap nw → (∀ a o', (a, o') ∈ news → a ≠ l → (∀ ps, o' ≠ tabObj ps) → (a, o') ∈ nw) → Tab 234 nw → Tab 241 nw → AllBare s'.gens → s'.os = s.os → R nw → wpAny M A (execs rest env) Q E s') : wpAny M A (execs (st :: rest) env) Q E s := by
  refine wpAny_execs_cons (wpAny_mono h1 (fun f s' h => ?_) fun _ _ e => e)
  obtain ⟨rfl, nw, F, N, hk, t1, t2, G, hos, r⟩ := h
  exact h2 nw s' F N hk t1 t2 G hos r
set_option maxHeartbeats 4000000 in
theorem zlw6 (st : Stmt) (hst : lawStmt? PySem.Challenge.rw_xy0002_05.row.toRowW.prog 6 = some st)
    (scope : Scope) (hsc : lawScope? PySem.Challenge.rw_xy0002_05.row.toRowW.prog = some scope)
    (w : World) (mean : ExcName → Option Value) (mg mb : Str → Option Value) (dp un : Nat) (gd : Option (List Code)) (a : Addr) (ccd : Value) (outer : List Env) (A₀ : Around) (base h₀ : Heap) (L : Addr) (m : Str → Option Value) (s : Shared) (E : Value → Shared → Prop) (news : Led)
    (sl rg lr lh lv : Addr) (n : Nat) (q : Int) (tn tq : Tok) (svs vsr : List Value) (sns rs : List Int) (kr : Nat)
    (B : Below A₀ base outer h₀) (hS : base.IsList sl svs.toArray) (X : (hd05.heap_39 w.params).In h₀) (T : Top topProg (looseW Mine05.view [] ++ (recsOf Mine05.view).map (·.name) ++ (litsOf Mine05.view).map (·.1) ++ (clssOf Mine05.view (looseW Mine05.view [])).map (·.name)) mean mg mb h₀) (hdp : dp + 100 < recursionLimit) (hun : un + 800 < cLine)
    (hsi : IntsAre svs sns) (hsb : ∀ x ∈ sns, Builtin.Int.intBits x ≤ 2 ^ 20) (hsl : sns.length ≤ 63)
    (hC1 : CodeHd h₀ 238 234) (hC2 : CodeHd h₀ 243 241) (hG : AllBare s.gens)
    (h1n : 1 ≤ n) (hn : n ≤ 8) (hq : 2 ≤ q) (hq2 : q ≤ 256) (hro : RootsOk q n rs)
    (hlhv : lh ≠ lv) (H0 : LI (fun _ => Ev q n rs) L q n tq tn rs vsr kr sl rg lr lh lv 0 m news) (F : Fr h₀ L s.heap m) (N : News h₀ L s.heap news) :
    wpAny (model PySem.Challenge.rw_xy0002_05.row.toRowW.prog w) (ktrTop dp un gd (Str.ofString "law") scope L a ccd [(Str.ofString "e", L + 1 + 1 + 1 + 1 + 1 + 1 + 1 + 1 + 1 + 1 + 1 + 1), (Str.ofString "y", L + 1 + 1 + 1 + 1 + 1 + 1 + 1 + 1 + 1 + 1 + 1), (Str.ofString "x", L + 1 + 1 + 1 + 1 + 1 + 1 + 1 + 1 + 1 + 1), (Str.ofString "t", L + 1 + 1 + 1 + 1 + 1 + 1 + 1 + 1 + 1), (Str.ofString "m", L + 1 + 1 + 1 + 1 + 1 + 1 + 1 + 1), (Str.ofString "a", L + 1 + 1 + 1 + 1 + 1 + 1 + 1), (Str.ofString "row", L + 1 + 1 + 1 + 1 + 1 + 1), (Str.ofString "z", L + 1 + 1 + 1 + 1 + 1), (Str.ofString "vals", L + 1 + 1 + 1 + 1), (Str.ofString "roots", L + 1 + 1 + 1), (Str.ofString "n", L + 1 + 1), (Str.ofString "q", L + 1)] outer) (exec st (envX (Str.ofString "law") scope L a ccd [(Str.ofString "e", L + 1 + 1 + 1 + 1 + 1 + 1 + 1 + 1 + 1 + 1 + 1 + 1), (Str.ofString "y", L + 1 + 1 + 1 + 1 + 1 + 1 + 1 + 1 + 1 + 1 + 1), (Str.ofString "x", L + 1 + 1 + 1 + 1 + 1 + 1 + 1 + 1 + 1 + 1), (Str.ofString "t", L + 1 + 1 + 1 + 1 + 1 + 1 + 1 + 1 + 1), (Str.ofString "m", L + 1 + 1 + 1 + 1 + 1 + 1 + 1 + 1), (Str.ofString "a", L + 1 + 1 + 1 + 1 + 1 + 1 + 1), (Str.ofString "row", L + 1 + 1 + 1 + 1 + 1 + 1), (Str.ofString "z", L + 1 + 1 + 1 + 1 + 1), (Str.ofString "vals", L + 1 + 1 + 1 + 1), (Str.ofString "roots", L + 1 + 1 + 1), (Str.ofString "n", L + 1 + 1), (Str.ofString "q", L + 1)])) (LP h₀ L s (LI (fun _ => Ev q n rs) L q n tq tn rs vsr kr sl rg lr lh lv 3)) E s := by
  obtain rfl : _ = st := Option.some.inj (hst : some _ = some st)
  obtain rfl : _ = scope := Option.some.inj (hsc : some _ = some scope)
  clear hst hsc
  revert X; k_fill; intro X
  refine For_G (h₀ := h₀) (by rfl) (by rfl) ?_ (by intro _; rfl)
  k_steps
  rename IsRange _ _ _ _ _ _ _ _ => hrg
  rename Fr _ _ _ _ => F1
  rename News _ _ _ _ => N1
  refine FSrcG.of (n := 3) (fun _ _ i m nw => LI (fun _ => Ev q n rs) L q n tq tn rs vsr kr sl rg lr lh lv i m nw) rfl F1 N1 hrg (by omega) hG H0 (fun i t I oI m₁ nw s' E' hi hR F' N' off hI1 hI2 hI3 _ G' hos => ?turn) (fun m₁ nw s' hR F' N' G' hos => ⟨rfl, m₁, nw, F', N', G', hos, hR⟩)
  case turn =>
    clear H0 F1 N1
    have hR9 := hR
    obtain ⟨_, _, _, _, _, t1, t2, _⟩ := hR9
    have hsub : Sub nw ((I, oI) :: nw) := fun p hp => List.mem_cons_of_mem _ hp
    have H := hR.step (m' := fun y => if y = Str.ofString "s" then some (.int (i : Int) t) else m₁ y) (K5.of_sub hsub) (KC.of_sub (cs := []) hsub) (fun c hc => absurd hc List.not_mem_nil) (t1.mono hsub) (t2.mono hsub) (if_neg (by decide)) (if_neg (by decide)) (if_neg (by decide))
    have hms : (fun y => if y = Str.ofString "s" then some (.int (i : Int) t) else m₁ y) (Str.ofString "s") = some (.int (i : Int) t) := if_pos rfl
    have mI : (I, oI) ∈ (I, oI) :: nw := List.mem_cons_self
    clear hR t1 t2
    generalize hnw0 : (I, oI) :: nw = nw0 at *
    generalize (fun y => if y = Str.ofString "s" then some (Value.int (i : Int) t) else m₁ y) = m0 at *
    obtain ⟨v5, c_5⟩ := H.co inC5
    obtain ⟨_, _, _, _, _, t1, t2, _, _, _, _, hs0, hg0, hh0⟩ := id H
    refine step_S5 (zlp1 _ rfl _ rfl w mean mg mb dp un gd a ccd outer A₀ base h₀ L m0 s' E' nw0 sl svs sns B hS X T hdp hun hsi hsb hsl hC1 hC2 t1 t2 G' hs0 i t hi hms v5 c_5 F' N') fun m1 nw1 s1 F1 N1 hk1 hc1 t11 t21 hm1 G1 hos1 r1 => ?_
    obtain ⟨x, tx, hbx, c_5⟩ := r1
    have H := H.step hk1 hc1 (subC inC5) t11 t21 (hm1 _ rfl) (hm1 _ rfl) (hm1 _ rfl)
    have mI1 := hk1.1 _ mI hI1 hI2
    obtain ⟨v6, c_6⟩ := H.co inC6
    obtain ⟨_, hcn1, _, _, _, _, _, _, _, _, _, hs1, _, _⟩ := id H
    refine step_S5 (zlp2 _ rfl _ rfl w mean mg mb dp un gd a ccd outer A₀ base h₀ L m1 s1 E' nw1 sl svs sns B hS X T hdp hun hsi hsb hsl hC1 hC2 t11 t21 G1 hs1 n tn hn hcn1 x tx hbx c_5 v6 c_6 F1 N1) fun m2 nw2 s2 F2 N2 hk2 hc2 t12 t22 hm2 G2 hos2 r2 => ?_
    obtain ⟨D, ys, mD, iD, c_6⟩ := r2
    have H := H.step hk2 hc2 (subC inC6) t12 t22 (hm2 _ rfl) (hm2 _ rfl) (hm2 _ rfl)
    have mI2 := hk2.1 _ mI1 hI1 hI2
    have hrl : ((List.range n).map fun (u : Nat) => x * ((u : Int) + 1) + (u : Int)).length = n := by rw [List.length_map, List.length_range]
    have hrb : ∀ y ∈ ((List.range n).map fun (u : Nat) => x * ((u : Int) + 1) + (u : Int)), Bd y := by
      intro y hy
      obtain ⟨u, hu, rfl⟩ := List.mem_map.mp hy
      have := List.mem_range.mp hu
      exact bd_row6 hbx (by omega)
    generalize ((List.range n).map fun (u : Nat) => x * ((u : Int) + 1) + (u : Int)) = row at iD hrl hrb
    obtain ⟨hcq, hcn, hcr, hcv, hco, _, _, hr, hmr, hir, ⟨hvs, wvs, kh, kv, l1, l2, mh, mv, hp⟩, hs2, hg2, hh2⟩ := id H
    have n1 : NoInts1 hvs := noInts1_refs fun j hj => by
      obtain ⟨v, w, cs, xs, e1, e2, p, l, ev'⟩ := hp j (by omega)
      obtain ⟨f, d, _, _, _, _, _, _, _, _, rfl, _⟩ := p
      exact ⟨f, e1⟩
    have n2 : NoInts1 wvs := noInts1_refs fun j hj => by
      obtain ⟨v, w, cs, xs, e1, e2, p, l, ev'⟩ := hp j (by omega)
      obtain ⟨f, _, _, rfl, _⟩ := l
      exact ⟨f, e2⟩
    clear hp
    have hlr : rs.length = n := hro.len
    refine step_SL5 (zlp3 _ rfl _ rfl w mean mg mb dp un gd a ccd outer A₀ base h₀ L m2 s2 E' nw2 sl svs sns B hS X T hdp hun hsi hsb hsl hC1 hC2 t12 t22 G2 hs2 q n rg lh D hvs ys kh row h1n hn hr hg2 hh2 mh (by omega) mD iD hrl hrb n1 c_6 F2 N2) fun nw3 s3 F3 N3 hk3 t13 t23 G3 hos3 r3 => ?_
    obtain ⟨v, k3, mh3, pv⟩ := r3
    have dn : ∀ {a o}, (a, o) ∈ nw2 → o ≠ W.listOf hvs.toArray kh → a ≠ lh := fun hm hn => ob_ne (N2 _ mh).1 (N2 _ hm).1 hn
    have kc3 : ∀ {c x}, Cell nw2 c x → Cell nw3 c x := fun ⟨o, hm, hd⟩ => ⟨o, hk3 _ _ hm (dn hm (by rintro rfl; cases hd)) (fun _ => cell_neT hd), hd⟩
    have mv3 := hk3 _ _ mv (Ne.symm hlhv) (fun _ => list_neT)
    have mD3 := hk3 _ _ mD (dn mD (lists_ne1 iD (by omega) n1)) (fun _ => list_neT)
    have mr3 := hk3 _ _ hmr (dn hmr (lists_ne1 hir (by omega) n1)) (fun _ => list_neT)
    have mI3 := hk3 _ _ mI2 (dn mI2 (cls_ne (c' := .type "list") hI3 rfl (by decide))) hI1
    refine step_SL5 (zlp4 _ rfl _ rfl w mean mg mb dp un gd a ccd outer A₀ base h₀ L m2 s3 E' nw3 sl svs sns B hS X T hdp hun hsi hsb hsl hC1 hC2 t13 t23 G3 hs2 q n lr lv D vsr wvs ys kr kv rs row tq h1n hn hq hq2 (kc3 hcq) (kc3 hcr) (kc3 hcv) (kc3 c_6) mv3 (by omega) mD3 iD hrl hrb n2 mr3 hir hlr hro.rng F3 N3) fun nw4 s4 F4 N4 hk4 t14 t24 G4 hos4 r4 => ?_
    obtain ⟨D9, k4, mv4, lw⟩ := r4
    have dn3 : ∀ {a o}, (a, o) ∈ nw3 → o ≠ W.listOf wvs.toArray kv → a ≠ lv := fun hm hn => ob_ne (N3 _ mv3).1 (N3 _ hm).1 hn
    have mh4 := hk4 _ _ mh3 hlhv (fun _ => list_neT)
    have mI4 := hk4 _ _ mI3 (dn3 mI3 (cls_ne (c' := .type "list") hI3 rfl (by decide))) hI1
    have pv4 : PolyIn nw4 v rg (row ++ List.replicate (n - row.length) 0) := pv.grow (hvs := wvs) (wvs := wvs) (kh := kv) (kv := kv) n2 n2 (by rw [List.length_append]; omega) fun a o hm h1 _ ht => hk4 a o hm (dn3 hm h1) ht
    have hK := LI.grow N2 H mh mv n1 n2 (fun a o hm h1 h2 ht => hk4 a o (hk3 a o hm h1 ht) h2 ht) t14 t24 (by omega) (fun _ cs xs e => ⟨by rw [e.len]; omega, by rw [e.lenx hro]; omega⟩) mh4 mv4 pv4 lw (ev_row hro hq hrb (by omega))
    refine wpAny_execs_nil ?_
    exact ⟨m2, offP I nw4, nw4, rfl, F4, N4, mI4, fun p hp => (of_offP hp).1, fun p hp => (of_offP hp).2, G4, hos4.trans (hos3.trans (hos2.trans (hos1.trans hos))), hK.restI hI1 hI2 hI3 fun a o hm hn => mem_offP hm (ob_ne (N4 _ mI4).1 (N4 _ hm).1 hn)⟩
theorem walkOff59 : True := by
  w_top off
  trivial
/-- where the law ends: true, and the two tables have grown -/
inductive LawEnd5 (h₀ : Heap) (L : Addr) (s : Shared) (f : Flow) (s' : Shared) : Prop
  | mk (hf : f = .ret (.bool true)) (m : Str → Option Value) (ps1 ps2 : Array Value) (F : Fr h₀ L s'.heap m) (hos : s'.os = s.os) (G : AllBare s'.gens) (t1 : s'.heap.get? 234 = some (tabObj ps1)) (t2 : s'.heap.get? 241 = some (tabObj ps2))
set_option maxHeartbeats 4000000 in
theorem zlw10 (st : Stmt) (hst : lawStmt? PySem.Challenge.rw_xy0002_05.row.toRowW.prog 10 = some st)
    (scope : Scope) (hsc : lawScope? PySem.Challenge.rw_xy0002_05.row.toRowW.prog = some scope)
    (w : World) (mean : ExcName → Option Value) (mg mb : Str → Option Value) (dp un : Nat) (gd : Option (List Code)) (a : Addr) (ccd : Value) (outer : List Env) (A₀ : Around) (base h₀ : Heap) (L : Addr) (m : Str → Option Value) (s : Shared) (E : Value → Shared → Prop) (news : Led)
    (sl : Addr) (svs : List Value) (sns : List Int)
    (B : Below A₀ base outer h₀) (hS : base.IsList sl svs.toArray) (X : (hd05.heap_39 w.params).In h₀) (T : Top topProg (looseW Mine05.view [] ++ (recsOf Mine05.view).map (·.name) ++ (litsOf Mine05.view).map (·.1) ++ (clssOf Mine05.view (looseW Mine05.view [])).map (·.name)) mean mg mb h₀) (hdp : dp + 100 < recursionLimit) (hun : un + 800 < cLine)
    (hsi : IntsAre svs sns) (hsb : ∀ x ∈ sns, Builtin.Int.intBits x ≤ 2 ^ 20) (hsl : sns.length ≤ 63)
    (hC1 : CodeHd h₀ 238 234) (hC2 : CodeHd h₀ 243 241) (ht1 : Tab 234 news) (ht2 : Tab 241 news) (hG : AllBare s.gens)
    (F : Fr h₀ L s.heap m) (N : News h₀ L s.heap news) :
    wpAny (model PySem.Challenge.rw_xy0002_05.row.toRowW.prog w) (ktrTop dp un gd (Str.ofString "law") scope L a ccd [(Str.ofString "e", L + 1 + 1 + 1 + 1 + 1 + 1 + 1 + 1 + 1 + 1 + 1 + 1), (Str.ofString "y", L + 1 + 1 + 1 + 1 + 1 + 1 + 1 + 1 + 1 + 1 + 1), (Str.ofString "x", L + 1 + 1 + 1 + 1 + 1 + 1 + 1 + 1 + 1 + 1), (Str.ofString "t", L + 1 + 1 + 1 + 1 + 1 + 1 + 1 + 1 + 1), (Str.ofString "m", L + 1 + 1 + 1 + 1 + 1 + 1 + 1 + 1), (Str.ofString "a", L + 1 + 1 + 1 + 1 + 1 + 1 + 1), (Str.ofString "row", L + 1 + 1 + 1 + 1 + 1 + 1), (Str.ofString "z", L + 1 + 1 + 1 + 1 + 1), (Str.ofString "vals", L + 1 + 1 + 1 + 1), (Str.ofString "roots", L + 1 + 1 + 1), (Str.ofString "n", L + 1 + 1), (Str.ofString "q", L + 1)] outer) (exec st (envX (Str.ofString "law") scope L a ccd [(Str.ofString "e", L + 1 + 1 + 1 + 1 + 1 + 1 + 1 + 1 + 1 + 1 + 1 + 1), (Str.ofString "y", L + 1 + 1 + 1 + 1 + 1 + 1 + 1 + 1 + 1 + 1 + 1), (Str.ofString "x", L + 1 + 1 + 1 + 1 + 1 + 1 + 1 + 1 + 1 + 1), (Str.ofString "t", L + 1 + 1 + 1 + 1 + 1 + 1 + 1 + 1 + 1), (Str.ofString "m", L + 1 + 1 + 1 + 1 + 1 + 1 + 1 + 1), (Str.ofString "a", L + 1 + 1 + 1 + 1 + 1 + 1 + 1), (Str.ofString "row", L + 1 + 1 + 1 + 1 + 1 + 1), (Str.ofString "z", L + 1 + 1 + 1 + 1 + 1), (Str.ofString "vals", L + 1 + 1 + 1 + 1), (Str.ofString "roots", L + 1 + 1 + 1), (Str.ofString "n", L + 1 + 1), (Str.ofString "q", L + 1)])) (LawEnd5 h₀ L s) E s := by
  obtain rfl : _ = st := Option.some.inj (hst : some _ = some st)
  obtain rfl : _ = scope := Option.some.inj (hsc : some _ = some scope)
  clear hst hsc
  obtain ⟨ps1, hP1, ht1⟩ := ht1
  obtain ⟨ps2, hP2, ht2⟩ := ht2
  revert X; k_fill; intro X
  k_steps
  exact ⟨rfl, m, ps1, ps2, F, rfl, hG, (N _ hP1).1, (N _ hP2).1⟩
theorem walkOff60 : True := by
  w_top off
  trivial
theorem q5_of {q : Int} (h : q ∈ ([17, 97, 113, 193, 241] : List Int)) : 2 ≤ q ∧ q ≤ 256 := by
  simp only [List.mem_cons, List.not_mem_nil, or_false] at h
  omega
theorem n5_of {n : Nat} (h : n ∈ ([1, 2, 4, 8] : List Nat)) : 1 ≤ n ∧ n ≤ 8 := by
  simp only [List.mem_cons, List.not_mem_nil, or_false] at h
  omega
set_option maxHeartbeats 4000000 in
theorem law_all (st0 : Stmt) (h0 : lawStmt? PySem.Challenge.rw_xy0002_05.row.toRowW.prog 0 = some st0) (st1 : Stmt) (h1 : lawStmt? PySem.Challenge.rw_xy0002_05.row.toRowW.prog 1 = some st1) (st2 : Stmt) (h2 : lawStmt? PySem.Challenge.rw_xy0002_05.row.toRowW.prog 2 = some st2) (st3 : Stmt) (h3 : lawStmt? PySem.Challenge.rw_xy0002_05.row.toRowW.prog 3 = some st3) (st4 : Stmt) (h4 : lawStmt? PySem.Challenge.rw_xy0002_05.row.toRowW.prog 4 = some st4) (st5 : Stmt) (h5 : lawStmt? PySem.Challenge.rw_xy0002_05.row.toRowW.prog 5 = some st5) (st6 : Stmt) (h6 : lawStmt? PySem.Challenge.rw_xy0002_05.row.toRowW.prog 6 = some st6) (st7 : Stmt) (h7 : lawStmt? PySem.Challenge.rw_xy0002_05.row.toRowW.prog 7 = some st7) (st8 : Stmt) (h8 : lawStmt? PySem.Challenge.rw_xy0002_05.row.toRowW.prog 8 = some st8) (st9 : Stmt) (h9 : lawStmt? PySem.Challenge.rw_xy0002_05.row.toRowW.prog 9 = some st9) (st10 : Stmt) (h10 : lawStmt? PySem.Challenge.rw_xy0002_05.row.toRowW.prog 10 = some st10)
    (scope : Scope) (hsc : lawScope? PySem.Challenge.rw_xy0002_05.row.toRowW.prog = some scope)
    (w : World) (mean : ExcName → Option Value) (mg mb : Str → Option Value) (dp un : Nat) (gd : Option (List Code)) (a : Addr) (ccd : Value) (outer : List Env) (A₀ : Around) (base h₀ : Heap) (L : Addr) (m : Str → Option Value) (s : Shared) (E : Value → Shared → Prop) (news : Led)
    (sl : Addr) (svs : List Value) (sns : List Int)
    (B : Below A₀ base outer h₀) (hS : base.IsList sl svs.toArray) (X : (hd05.heap_39 w.params).In h₀) (T : Top topProg (looseW Mine05.view [] ++ (recsOf Mine05.view).map (·.name) ++ (litsOf Mine05.view).map (·.1) ++ (clssOf Mine05.view (looseW Mine05.view [])).map (·.name)) mean mg mb h₀) (hdp : dp + 100 < recursionLimit) (hun : un + 800 < cLine)
    (hsi : IntsAre svs sns) (hsb : ∀ x ∈ sns, Builtin.Int.intBits x ≤ 2 ^ 20) (hsl : sns.length ≤ 63)
    (hC1 : CodeHd h₀ 238 234) (hC2 : CodeHd h₀ 243 241) (ht1 : Tab 234 news) (ht2 : Tab 241 news) (hG : AllBare s.gens)
    (hm_s : m (Str.ofString "script") = some (.ref sl))
    (hco : ∀ c ∈ ([(L+1), (L+1+1), (L+1+1+1), (L+1+1+1+1), (L+1+1+1+1+1), (L+1+1+1+1+1+1), (L+1+1+1+1+1+1+1), (L+1+1+1+1+1+1+1+1), (L+1+1+1+1+1+1+1+1+1), (L+1+1+1+1+1+1+1+1+1+1), (L+1+1+1+1+1+1+1+1+1+1+1), (L+1+1+1+1+1+1+1+1+1+1+1+1)] : List Addr), ∃ v, Cell news c v) (F : Fr h₀ L s.heap m) (N : News h₀ L s.heap news) :
    wpAny (model PySem.Challenge.rw_xy0002_05.row.toRowW.prog w) (ktrTop dp un gd (Str.ofString "law") scope L a ccd [(Str.ofString "e", L + 1 + 1 + 1 + 1 + 1 + 1 + 1 + 1 + 1 + 1 + 1 + 1), (Str.ofString "y", L + 1 + 1 + 1 + 1 + 1 + 1 + 1 + 1 + 1 + 1 + 1), (Str.ofString "x", L + 1 + 1 + 1 + 1 + 1 + 1 + 1 + 1 + 1 + 1), (Str.ofString "t", L + 1 + 1 + 1 + 1 + 1 + 1 + 1 + 1 + 1), (Str.ofString "m", L + 1 + 1 + 1 + 1 + 1 + 1 + 1 + 1), (Str.ofString "a", L + 1 + 1 + 1 + 1 + 1 + 1 + 1), (Str.ofString "row", L + 1 + 1 + 1 + 1 + 1 + 1), (Str.ofString "z", L + 1 + 1 + 1 + 1 + 1), (Str.ofString "vals", L + 1 + 1 + 1 + 1), (Str.ofString "roots", L + 1 + 1 + 1), (Str.ofString "n", L + 1 + 1), (Str.ofString "q", L + 1)] outer) (execs [st0, st1, st2, st3, st4, st5, st6, st7, st8, st9, st10] (envX (Str.ofString "law") scope L a ccd [(Str.ofString "e", L + 1 + 1 + 1 + 1 + 1 + 1 + 1 + 1 + 1 + 1 + 1 + 1), (Str.ofString "y", L + 1 + 1 + 1 + 1 + 1 + 1 + 1 + 1 + 1 + 1 + 1), (Str.ofString "x", L + 1 + 1 + 1 + 1 + 1 + 1 + 1 + 1 + 1 + 1), (Str.ofString "t", L + 1 + 1 + 1 + 1 + 1 + 1 + 1 + 1 + 1), (Str.ofString "m", L + 1 + 1 + 1 + 1 + 1 + 1 + 1 + 1), (Str.ofString "a", L + 1 + 1 + 1 + 1 + 1 + 1 + 1), (Str.ofString "row", L + 1 + 1 + 1 + 1 + 1 + 1), (Str.ofString "z", L + 1 + 1 + 1 + 1 + 1), (Str.ofString "vals", L + 1 + 1 + 1 + 1), (Str.ofString "roots", L + 1 + 1 + 1), (Str.ofString "n", L + 1 + 1), (Str.ofString "q", L + 1)])) (LawEnd5 h₀ L s) E s := by
  obtain ⟨v1, c1⟩ := hco (L+1) (List.mem_of_getElem? (i := 0) rfl)
  refine step_S5 (zlw0 st0 h0 _ hsc w mean mg mb dp un gd a ccd outer A₀ base h₀ L m s E news sl svs sns B hS X T hdp hun hsi hsb hsl hC1 hC2 ht1 ht2 hG hm_s v1 c1 F N) fun m1 nw1 s1 F1 N1 hk1 hc1 t11 t21 hm1 G1 hos1 r1 => ?_
  obtain ⟨q, tq, hqm, c1⟩ := r1
  have hs1 := (hm1 _ rfl).trans hm_s
  have hco1 : ∀ c ∈ ([(L+1), (L+1+1), (L+1+1+1), (L+1+1+1+1), (L+1+1+1+1+1), (L+1+1+1+1+1+1), (L+1+1+1+1+1+1+1), (L+1+1+1+1+1+1+1+1), (L+1+1+1+1+1+1+1+1+1), (L+1+1+1+1+1+1+1+1+1+1), (L+1+1+1+1+1+1+1+1+1+1+1), (L+1+1+1+1+1+1+1+1+1+1+1+1)] : List Addr), ∃ v, Cell nw1 c v := fun c hc => let ⟨v, z⟩ := hco c hc; hk1.2 c v z
  obtain ⟨hq, hq2⟩ := q5_of hqm
  obtain ⟨v2, c2⟩ := hco1 (L+1+1) (List.mem_of_getElem? (i := 1) rfl)
  refine step_S5 (zlw1 st1 h1 _ hsc w mean mg mb dp un gd a ccd outer A₀ base h₀ L m1 s1 E nw1 sl svs sns B hS X T hdp hun hsi hsb hsl hC1 hC2 t11 t21 G1 hs1 v2 c2 F1 N1) fun m2 nw2 s2 F2 N2 hk2 hc2 t12 t22 hm2 G2 hos2 r2 => ?_
  obtain ⟨n, tn, hnm, c2⟩ := r2
  have hs2 := (hm2 _ rfl).trans hs1
  have hco2 : ∀ c ∈ ([(L+1), (L+1+1), (L+1+1+1), (L+1+1+1+1), (L+1+1+1+1+1), (L+1+1+1+1+1+1), (L+1+1+1+1+1+1+1), (L+1+1+1+1+1+1+1+1), (L+1+1+1+1+1+1+1+1+1), (L+1+1+1+1+1+1+1+1+1+1), (L+1+1+1+1+1+1+1+1+1+1+1), (L+1+1+1+1+1+1+1+1+1+1+1+1)] : List Addr), ∃ v, Cell nw2 c v := fun c hc => let ⟨v, z⟩ := hco1 c hc; hk2.2 c v z
  obtain ⟨h1n, hn⟩ := n5_of hnm
  replace c1 := hc2 _ _ (offC 1 2 rfl rfl (by decide)) c1
  refine step_S5 (zlw2 st2 h2 _ hsc w mean mg mb dp un gd a ccd outer A₀ base h₀ L m2 s2 E nw2 sl svs sns B hS X T hdp hun hsi hsb hsl hC1 hC2 t12 t22 G2 hs2 q n tq tn c1 c2 F2 N2) fun m3 nw3 s3 F3 N3 hk3 hc3 t13 t23 hm3 G3 hos3 r3 => ?_
  obtain ⟨rg, hg, hr⟩ := r3
  have hs3 := (hm3 _ rfl).trans hs2
  have hco3 : ∀ c ∈ ([(L+1), (L+1+1), (L+1+1+1), (L+1+1+1+1), (L+1+1+1+1+1), (L+1+1+1+1+1+1), (L+1+1+1+1+1+1+1), (L+1+1+1+1+1+1+1+1), (L+1+1+1+1+1+1+1+1+1), (L+1+1+1+1+1+1+1+1+1+1), (L+1+1+1+1+1+1+1+1+1+1+1), (L+1+1+1+1+1+1+1+1+1+1+1+1)] : List Addr), ∃ v, Cell nw3 c v := fun c hc => let ⟨v, z⟩ := hco2 c hc; hk3.2 c v z
  replace c1 := hc3 _ _ (fun h => nomatch h) c1
  replace c2 := hc3 _ _ (fun h => nomatch h) c2
  obtain ⟨v3, c3⟩ := hco3 (L+1+1+1) (List.mem_of_getElem? (i := 2) rfl)
  refine step_S5 (zlw3 st3 h3 _ hsc w mean mg mb dp un gd a ccd outer A₀ base h₀ L m3 s3 E nw3 sl svs sns B hS X T hdp hun hsi hsb hsl hC1 hC2 t13 t23 G3 hs3 q n tq tn c1 c2 v3 c3 hq hq2 F3 N3) fun m4 nw4 s4 F4 N4 hk4 hc4 t14 t24 hm4 G4 hos4 r4 => ?_
  obtain ⟨lr, vsr, kr, c3, hmr, hir⟩ := r4
  have hs4 := (hm4 _ rfl).trans hs3
  have hco4 : ∀ c ∈ ([(L+1), (L+1+1), (L+1+1+1), (L+1+1+1+1), (L+1+1+1+1+1), (L+1+1+1+1+1+1), (L+1+1+1+1+1+1+1), (L+1+1+1+1+1+1+1+1), (L+1+1+1+1+1+1+1+1+1), (L+1+1+1+1+1+1+1+1+1+1), (L+1+1+1+1+1+1+1+1+1+1+1), (L+1+1+1+1+1+1+1+1+1+1+1+1)] : List Addr), ∃ v, Cell nw4 c v := fun c hc => let ⟨v, z⟩ := hco3 c hc; hk4.2 c v z
  replace c1 := hc4 _ _ (offC 1 3 rfl rfl (by decide)) c1
  replace c2 := hc4 _ _ (offC 2 3 rfl rfl (by decide)) c2
  replace hg := (hm4 _ rfl).trans hg
  replace hr := hr.k5 hk4
  refine step_S5 (zlw4 st4 h4 _ hsc w mean mg mb dp un gd a ccd outer A₀ base h₀ L m4 s4 E nw4 sl svs sns B hS X T hdp hun hsi hsb hsl hC1 hC2 t14 t24 G4 hs4 F4 N4) fun m5 nw5 s5 F5 N5 hk5 hc5 t15 t25 hm5 G5 hos5 r5 => ?_
  obtain ⟨lh, kh, hh, mh⟩ := r5
  have hs5 := (hm5 _ rfl).trans hs4
  have hco5 : ∀ c ∈ ([(L+1), (L+1+1), (L+1+1+1), (L+1+1+1+1), (L+1+1+1+1+1), (L+1+1+1+1+1+1), (L+1+1+1+1+1+1+1), (L+1+1+1+1+1+1+1+1), (L+1+1+1+1+1+1+1+1+1), (L+1+1+1+1+1+1+1+1+1+1), (L+1+1+1+1+1+1+1+1+1+1+1), (L+1+1+1+1+1+1+1+1+1+1+1+1)] : List Addr), ∃ v, Cell nw5 c v := fun c hc => let ⟨v, z⟩ := hco4 c hc; hk5.2 c v z
  replace c1 := hc5 _ _ (fun h => nomatch h) c1
  replace c2 := hc5 _ _ (fun h => nomatch h) c2
  replace c3 := hc5 _ _ (fun h => nomatch h) c3
  replace hg := (hm5 _ rfl).trans hg
  replace hr := hr.k5 hk5
  replace hmr := hk5.list hmr
  obtain ⟨v4, c4⟩ := hco5 (L+1+1+1+1) (List.mem_of_getElem? (i := 3) rfl)
  refine step_S5 (zlw5 st5 h5 _ hsc w mean mg mb dp un gd a ccd outer A₀ base h₀ L m5 s5 E nw5 sl svs sns B hS X T hdp hun hsi hsb hsl hC1 hC2 t15 t25 G5 hs5 v4 c4 F5 N5) fun m6 nw6 s6 F6 N6 hk6 hc6 t16 t26 hm6 G6 hos6 r6 => ?_
  obtain ⟨lv, kv, c4, mv, hne⟩ := r6
  have hs6 := (hm6 _ rfl).trans hs5
  have hco6 : ∀ c ∈ ([(L+1), (L+1+1), (L+1+1+1), (L+1+1+1+1), (L+1+1+1+1+1), (L+1+1+1+1+1+1), (L+1+1+1+1+1+1+1), (L+1+1+1+1+1+1+1+1), (L+1+1+1+1+1+1+1+1+1), (L+1+1+1+1+1+1+1+1+1+1), (L+1+1+1+1+1+1+1+1+1+1+1), (L+1+1+1+1+1+1+1+1+1+1+1+1)] : List Addr), ∃ v, Cell nw6 c v := fun c hc => let ⟨v, z⟩ := hco5 c hc; hk6.2 c v z
  have hlhv : lh ≠ lv := hne _ mh
  replace c1 := hc6 _ _ (offC 1 4 rfl rfl (by decide)) c1
  replace c2 := hc6 _ _ (offC 2 4 rfl rfl (by decide)) c2
  replace c3 := hc6 _ _ (offC 3 4 rfl rfl (by decide)) c3
  replace hg := (hm6 _ rfl).trans hg
  replace hh := (hm6 _ rfl).trans hh
  replace hr := hr.k5 hk6
  replace hmr := hk6.list hmr
  replace mh := hk6.list mh
  have hro := roots_ok hqm hnm
  have H : LI (fun _ => Ev q n (rootsF q n)) L q n tq tn (rootsF q n) vsr kr sl rg lr lh lv 0 m6 nw6 := ⟨c1, c2, c3, c4, fun c hc => hco6 c (List.mem_of_mem_drop (i := 4) hc), t16, t26, hr, hmr, hir, ⟨[], [], kh, kv, rfl, rfl, mh, mv, fun i hi => absurd hi (Nat.not_lt_zero _)⟩, hs6, hg, hh⟩
  refine step_LP (zlw6 st6 h6 _ hsc w mean mg mb dp un gd a ccd outer A₀ base h₀ L m6 s6 E nw6 sl rg lr lh lv n q tn tq svs vsr sns (rootsF q n) kr B hS X T hdp hun hsi hsb hsl hC1 hC2 G6 h1n hn hq hq2 hro hlhv H F6 N6) fun m7 nw7 s7 F7 N7 G7 hos7 H7 => ?_
  refine step_LP (ylw7 st7 h7 _ hsc w mean mg mb dp un gd a ccd outer A₀ base h₀ L m7 s7 E nw7 sl rg lr lh lv n q tn tq svs vsr sns (rootsF q n) kr B hS X T hdp hun hsi hsb hsl hC1 hC2 G7 h1n hn hq hq2 hro H7 F7 N7) fun m8 nw8 s8 F8 N8 G8 hos8 H8 => ?_
  refine step_LP (ylw8 st8 h8 _ hsc w mean mg mb dp un gd a ccd outer A₀ base h₀ L m8 s8 E nw8 sl rg lr lh lv n q tn tq svs vsr sns (rootsF q n) kr B hS X T hdp hun hsi hsb hsl hC1 hC2 G8 h1n hn hq hq2 hro H8 F8 N8) fun m9 nw9 s9 F9 N9 G9 hos9 H9 => ?_
  refine step_LP (ylw9 st9 h9 _ hsc w mean mg mb dp un gd a ccd outer A₀ base h₀ L m9 s9 E nw9 sl rg lr lh lv n q tn tq svs vsr sns (rootsF q n) kr B hS X T hdp hun hsi hsb hsl hC1 hC2 G9 h1n hn hq hq2 hro H9 F9 N9) fun m10 nw10 s10 F10 N10 G10 hos10 r10 => ?_
  obtain ⟨t1, t2⟩ := r10
  refine wpAny_execs_cons (wpAny_mono (zlw10 st10 h10 _ hsc w mean mg mb dp un gd a ccd outer A₀ base h₀ L m10 s10 E nw10 sl svs sns B hS X T hdp hun hsi hsb hsl hC1 hC2 t1 t2 G10 F10 N10) (fun f s' h => ?_) fun _ _ e => e)
  obtain ⟨rfl, m', ps1, ps2, F', hos', G', e1, e2⟩ := h
  exact ⟨rfl, m', ps1, ps2, F', hos'.trans (hos10.trans (hos9.trans (hos8.trans (hos7.trans (hos6.trans (hos5.trans (hos4.trans (hos3.trans (hos2.trans hos1))))))))), G', e1, e2⟩
set_option maxHeartbeats 4000000 in
theorem law_run (body : List Stmt) (hst : lawBody? PySem.Challenge.rw_xy0002_05.row.toRowW.prog = some body)
    (scope : Scope) (hsc : lawScope? PySem.Challenge.rw_xy0002_05.row.toRowW.prog = some scope)
    (w : World) (mean : ExcName → Option Value) (mg mb : Str → Option Value) (dp un : Nat) (gd : Option (List Code)) (a : Addr) (ccd : Value) (outer : List Env) (A₀ : Around) (base h₀ : Heap) (L : Addr) (m : Str → Option Value) (s : Shared) (E : Value → Shared → Prop) (news : Led)
    (sl : Addr) (svs : List Value) (sns : List Int)
    (B : Below A₀ base outer h₀) (hS : base.IsList sl svs.toArray) (X : (hd05.heap_39 w.params).In h₀) (T : Top topProg (looseW Mine05.view [] ++ (recsOf Mine05.view).map (·.name) ++ (litsOf Mine05.view).map (·.1) ++ (clssOf Mine05.view (looseW Mine05.view [])).map (·.name)) mean mg mb h₀) (hdp : dp + 100 < recursionLimit) (hun : un + 800 < cLine)
    (hsi : IntsAre svs sns) (hsb : ∀ x ∈ sns, Builtin.Int.intBits x ≤ 2 ^ 20) (hsl : sns.length ≤ 63)
    (hC1 : CodeHd h₀ 238 234) (hC2 : CodeHd h₀ 243 241) (ht1 : Tab 234 news) (ht2 : Tab 241 news) (hG : AllBare s.gens)
    (hm_s : m (Str.ofString "script") = some (.ref sl))
    (hco : ∀ c ∈ ([(L+1), (L+1+1), (L+1+1+1), (L+1+1+1+1), (L+1+1+1+1+1), (L+1+1+1+1+1+1), (L+1+1+1+1+1+1+1), (L+1+1+1+1+1+1+1+1), (L+1+1+1+1+1+1+1+1+1), (L+1+1+1+1+1+1+1+1+1+1), (L+1+1+1+1+1+1+1+1+1+1+1), (L+1+1+1+1+1+1+1+1+1+1+1+1)] : List Addr), ∃ v, Cell news c v) (F : Fr h₀ L s.heap m) (N : News h₀ L s.heap news) :
    wpAny (model PySem.Challenge.rw_xy0002_05.row.toRowW.prog w) (ktrTop dp un gd (Str.ofString "law") scope L a ccd [(Str.ofString "e", L + 1 + 1 + 1 + 1 + 1 + 1 + 1 + 1 + 1 + 1 + 1 + 1), (Str.ofString "y", L + 1 + 1 + 1 + 1 + 1 + 1 + 1 + 1 + 1 + 1 + 1), (Str.ofString "x", L + 1 + 1 + 1 + 1 + 1 + 1 + 1 + 1 + 1 + 1), (Str.ofString "t", L + 1 + 1 + 1 + 1 + 1 + 1 + 1 + 1 + 1), (Str.ofString "m", L + 1 + 1 + 1 + 1 + 1 + 1 + 1 + 1), (Str.ofString "a", L + 1 + 1 + 1 + 1 + 1 + 1 + 1), (Str.ofString "row", L + 1 + 1 + 1 + 1 + 1 + 1), (Str.ofString "z", L + 1 + 1 + 1 + 1 + 1), (Str.ofString "vals", L + 1 + 1 + 1 + 1), (Str.ofString "roots", L + 1 + 1 + 1), (Str.ofString "n", L + 1 + 1), (Str.ofString "q", L + 1)] outer) (execs body (envX (Str.ofString "law") scope L a ccd [(Str.ofString "e", L + 1 + 1 + 1 + 1 + 1 + 1 + 1 + 1 + 1 + 1 + 1 + 1), (Str.ofString "y", L + 1 + 1 + 1 + 1 + 1 + 1 + 1 + 1 + 1 + 1 + 1), (Str.ofString "x", L + 1 + 1 + 1 + 1 + 1 + 1 + 1 + 1 + 1 + 1), (Str.ofString "t", L + 1 + 1 + 1 + 1 + 1 + 1 + 1 + 1 + 1), (Str.ofString "m", L + 1 + 1 + 1 + 1 + 1 + 1 + 1 + 1), (Str.ofString "a", L + 1 + 1 + 1 + 1 + 1 + 1 + 1), (Str.ofString "row", L + 1 + 1 + 1 + 1 + 1 + 1), (Str.ofString "z", L + 1 + 1 + 1 + 1 + 1), (Str.ofString "vals", L + 1 + 1 + 1 + 1), (Str.ofString "roots", L + 1 + 1 + 1), (Str.ofString "n", L + 1 + 1), (Str.ofString "q", L + 1)])) (LawEnd5 h₀ L s) E s := by
  obtain rfl : _ = body := Option.some.inj (hst : some _ = some body)
  exact law_all _ rfl _ rfl _ rfl _ rfl _ rfl _ rfl _ rfl _ rfl _ rfl _ rfl _ rfl scope hsc w mean mg mb dp un gd a ccd outer A₀ base h₀ L m s E news sl svs sns B hS X T hdp hun hsi hsb hsl hC1 hC2 ht1 ht2 hG hm_s hco F N
end
end
end
end
end
theorem walkOff61 : True := by
  w_top off
  trivial
/-- what stood before the law stands behind it: the tables of the two codes have grown, all else is as it was -/
theorem old_grown2 {h₁ h : Heap} {c1 P1 c2 P2 L : Addr} {m : Str → Option Value} {ps1 ps2 : Array Value} (hC1 : CodeHd h₁ c1 P1) (hT1 : h₁.get? P1 = some (tabObj #[])) (hC2 : CodeHd h₁ c2 P2) (hT2 : h₁.get? P2 = some (tabObj #[])) (F : Fr (ghostOf h₁ [(c1, P1), (c2, P2)]) L h m) (hP1 : h.get? P1 = some (tabObj ps1)) (hP2 : h.get? P2 = some (tabObj ps2)) : OldK h₁ h := by
  have keep : ∀ b o, b ≠ P1 → b ≠ P2 → h₁.get? b = some o → h.get? b = some o := fun b o hb hb2 e => F.keep b o (ghost_ne e (by simpa using ⟨hb, hb2⟩))
  constructor
  · intro b o e
    by_cases hb : b = P1
    · subst hb
      obtain rfl := Option.some.inj (hT1.symm.trans e)
      exact .inr (.inl ⟨(hC1.tab hT1).isCodeTable, rfl, #[], ps1, rfl, by rw [Array.empty_append]; exact hP1⟩)
    · by_cases hb2 : b = P2
      · subst hb2
        obtain rfl := Option.some.inj (hT2.symm.trans e)
        exact .inr (.inl ⟨(hC2.tab hT2).isCodeTable, rfl, #[], ps2, rfl, by rw [Array.empty_append]; exact hP2⟩)
      · exact .inl (keep b o hb hb2 e)
  · intro b o e
    by_cases hb : b = P1
    · subst hb; exact ⟨_, hP1⟩
    · by_cases hb2 : b = P2
      · subst hb2; exact ⟨_, hP2⟩
      · exact ⟨_, keep b o hb hb2 e⟩
theorem cells_all {cm : Str → Option Value} {cs : List (Str × Addr)} {cells : Led} (x : CellsAre cm cs cells) : ∀ c ∈ cs.map (·.2), ∃ v o, (c, o) ∈ cells ∧ o.data = .cell v := by
  induction x with
  | nil => intro c hc; cases hc
  | cons hd _ ih =>
    intro c hc
    rw [List.map_cons] at hc
    rcases List.mem_cons.mp hc with rfl | hc
    · exact ⟨_, _, List.mem_cons_self, hd⟩
    · obtain ⟨v, o, h1, h2⟩ := ih c hc
      exact ⟨v, o, List.mem_cons_of_mem _ h1, h2⟩
set_option maxHeartbeats 4000000 in
theorem row0 : PySem.Challenge.rw_xy0002_05.Holds := hd05 (by
  k_fill
  intro w s₀ s₁ mg mb G Y fa o pm cd doc dV kV ho hd hcd hD hmg hg args vals as hpre hlay hrd hwl hlo
  have KX := km_in_of Y
  km_tabs Y
  have X := (Ground.X G).1
  have V := (Ground.X G).2
  refine Ground.open G ?_
  intro T B D TE TW
  have hC1 := codeHd_of_K (c := 238) (P := 234) KX (by kernel_rfl)
  have hC2 := codeHd_of_K (c := 243) (P := 241) KX (by kernel_rfl)
  have hT1 := hT8 234 (by k_mem)
  have hT2 := hT8 241 (by k_mem)
  try (refine guard_noD D (by decide +kernel) ?_; clear D)
  have hT9 : TabsAt ([(238, 234), (243, 241)] : List (Addr × Addr)) _ := List.forall_mem_cons.mpr ⟨⟨hC1, hT1⟩, List.forall_mem_cons.mpr ⟨⟨hC2, hT2⟩, fun _ h => nomatch h⟩⟩
  clear hmg
  wrow_args hpre hlay hrd hwl hlo
  all_goals (
    first | refine callC_kw (enter_call ?_) | refine enter_call ?_
    w_top on
    (have he := Dflts.none hD rfl; subst he; have he := Dflts.noKw hD; subst he)
    (refine call_cellsN (by decide) ho (fd_plain hd) (Top.nolimit T) hcd rfl (kinds_of (by kinds_ok)) (by decide +kernel) fun h₁ tk₁ cells F N0 X0 => ?_)
    clear hd
    kn_ghosts F T
    k_drop
    skip)
  rename CellsAre _ _ _ => X0
  rename News _ _ _ _ => N0
  rename Fr _ _ _ _ => F0
  rename Below _ _ _ _ => K0
  rename PyData.layable0 _ = true => hly
  have hG : AllBare s₁.gens := .of_eq hg
  have hcc := cells_all X0
  refine wpAny_mono (law_run (a := _) (ccd := _) (E := _) (dp := 1 + claimMargin + 1) (un := 4 + 3) (gd := some []) (hst := rfl) (hsc := rfl) (B := K0) (hS := by assumption) (X := by assumption) (T := by assumption) (hdp := by decide) (hun := by decide) (hsi := by assumption) (hsb := fun x hx => intBits_le_of_item hx hly) (hsl := by omega) (hC1 := (ghost_code hT9).1) (hC2 := (ghost_code hT9).2.1) (ht1 := ⟨#[], List.mem_append_right _ List.mem_cons_self, trivial⟩) (ht2 := ⟨#[], List.mem_append_right _ (List.mem_cons_of_mem _ List.mem_cons_self), trivial⟩) (hG := hG) (hm_s := rfl) (hco := ?hco) (F := F0) (N := N0)) (fun f s' h => ?_) fun _ _ e => e
  case hco =>
    intro c hc
    obtain ⟨v, o, h1, h2⟩ := hcc c (List.mem_reverse.mp hc)
    exact ⟨v, o, List.mem_append_left _ h1, h2⟩
  obtain ⟨rfl, m', ps1, ps2, F9, hos, hG9, hP9, hQ9⟩ := h
  refine ⟨.inl ⟨.bool true, .bool true, [], rfl, raisesW_false ?hn, .bool _, ?hp, fun _ => ⟨.nil, fun _ h => nomatch h⟩⟩, old_grown2 hC1 hT1 hC2 hT2 F9 hP9 hQ9, hos, hG9⟩
  case hn => wrow_none_raised
  case hp => wrow_post)
end Mine05
end
theorem PySem.Challenge.cw_xy0002_05_holds : PySem.Challenge.rw_xy0002_05.Holds := by
  exact Mine05.row0
