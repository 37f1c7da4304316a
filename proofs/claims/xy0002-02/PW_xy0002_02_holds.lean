import PyProof.Rows.All
import Wide.All
import OpenK.AllK
import Wide.FinOn
import PySem.Challenge.RW_xy0002_02
open PySem PySem.W PyProof.Rows PySem.Calls PySem.Spec
set_option Elab.async false
set_option maxRecDepth 100000
set_option compiler.extract_closed false
set_option linter.all false
namespace Mine02
def dropAt {α : Type} : Nat → List α → List α
  | _, [] => []
  | 0, _ :: r => r
  | n + 1, a :: r => a :: dropAt n r
/-- the text's top without the module's own names -/
def view : Program := { PySem.Challenge.rw_xy0002_02.row.toRowW.prog with main := { PySem.Challenge.rw_xy0002_02.row.toRowW.prog.main with body := dropAt 1 (dropAt 4 (PySem.Challenge.rw_xy0002_02.row.toRowW.prog.main.body)) } }
end Mine02
section
local macro_rules | `(tactic| o_head $H) => `(tactic| (refine holds_open (q := Mine02.view) (loose := []) (Xt := fun s => xlAt Mine02.view [] s && recOk (RowW.records (OpenRow.toRowW (OpenLaw.row PySem.Challenge.rw_xy0002_02))) s) (XP := XL Mine02.view []) (Yf := Hook.obs $H) (Ya := Hook.val $H) (YP := Hook.says $H) (N := 3172) ?hl (Hook.of $H) (Hook.keeps $H) (fun s e => xl_of s (Bool.and_eq_true_iff.mp e).1) XL.keeps (by rfl) (by rfl) (by rfl) (fun s e => recFacts_of (Bool.and_eq_true_iff.mp e).2) (by rfl) (by first | assumption | decide +kernel) (by decide +kernel) ⟨rfl, rfl, rfl, rfl, rfl, by decide +kernel⟩ ?hw ?hc; (case hl => intro w; kernel_rfl)))
set_option maxRecDepth 100000 in
set_option maxHeartbeats 8000000 in
open_top hd02 for PySem.Challenge.rw_xy0002_02
end
section
namespace Mine02
abbrev Led := List (Addr × Obj)
def Sub (a b : Led) : Prop := ∀ p ∈ a, p ∈ b
theorem Sub.get {a b : Led} (h : Sub a b) {p : Addr × Obj} (m : p ∈ a) : p ∈ b := h p m
def Spec (w : World) (mean : ExcName → Option Value) (mg mb : Str → Option Value) (f : Addr) (args : List Value) (need : Nat) (news : Led) (Out : Value → Led → Prop) : Prop :=
  ∀ (dp un : Nat) (gd : Option (List Code)) (cn : Str) (cs : Scope) (a : Addr) (ccd : Value) (cl : List (Str × Addr)) (outer : List Env) (A₀ : Around) (base h₀ : Heap) (L : Addr) (m : Str → Option Value) (s : Shared) (Q E : Value → Shared → Prop),
    Below A₀ base outer h₀ → Fr h₀ L s.heap m → (hd02.heap_39 w.params).In h₀ → News h₀ L s.heap news → Top Mine02.view (looseW Mine02.view []) mean mg mb h₀ → cs.kind = .function →
    dp + need < recursionLimit → un + 8 * need < cLine →
    (∀ r nw h' tk', Fr h₀ L h' m → News h₀ L h' nw → Sub news nw → Out r nw → Q r { s with heap := h', toks := tk' }) →
    codeAny (model PySem.Challenge.rw_xy0002_02.row.toRowW.prog w) (ktrTop dp un gd cn cs L a ccd cl outer) (.call (.ref f) ⟨args, []⟩) (fun r s' => match r with | .ok (.ret v) => Q v s' | .ok _ => False | .error e => E e s') s
theorem Spec.use {w : World} {mean : ExcName → Option Value} {mg mb : Str → Option Value} {f : Addr} {args : List Value} {need : Nat} {news : Led} {Out : Value → Led → Prop}
    (h : Spec w mean mg mb f args need news Out)
    {dp un : Nat} {gd : Option (List Code)} {cn : Str} {cs : Scope} {a : Addr} {ccd : Value} {cl : List (Str × Addr)} {outer : List Env} {A₀ : Around} {base h₀ : Heap} {L : Addr} {m : Str → Option Value} {s : Shared} {Q E : Value → Shared → Prop}
    (B : Below A₀ base outer h₀) (F : Fr h₀ L s.heap m) (X : (hd02.heap_39 w.params).In h₀) (N : News h₀ L s.heap news) (T : Top Mine02.view (looseW Mine02.view []) mean mg mb h₀) (hk : cs.kind = .function)
    (hd : dp + need < recursionLimit) (hu : un + 8 * need < cLine)
    (ret : ∀ r nw h' tk', Fr h₀ L h' m → News h₀ L h' nw → Sub news nw → Out r nw → Q r { s with heap := h', toks := tk' }) :
    codeAny (model PySem.Challenge.rw_xy0002_02.row.toRowW.prog w) (ktrTop dp un gd cn cs L a ccd cl outer) (.call (.ref f) ⟨args, []⟩) (fun r s' => match r with | .ok (.ret v) => Q v s' | .ok _ => False | .error e => E e s') s :=
  h dp un gd cn cs a ccd cl outer A₀ base h₀ L m s Q E B F X N T hk hd hu ret

inductive ListIn (news : Led) (v : Value) (ns : List Int) : Prop
  | mk (l vs k) (a0 : v = .ref l) (a1 : (l, W.listOf (List.toArray vs) k) ∈ news) (a2 : IntsAre vs ns)
inductive RingIn (nw : Led) (rg : Addr) (q : Int) (n : Nat) : Prop
  | mk (d h1 k1 h2 k2 tq tn c) (a0 : (rg, instObj 59 d) ∈ nw) (a1 : (d, W.dictOf [⟨h1, .str (Str.ofString "q") k1, .int q tq⟩, ⟨h2, .str (Str.ofString "n") k2, .int (n : Int) tn⟩] c) ∈ nw)
inductive PolyIn (nw : Led) (v : Value) (rg : Addr) (cs : List Int) : Prop
  | mk (f d h1 k1 h2 k2 l vs k c) (a0 : v = .ref f) (a1 : (f, instObj 220 d) ∈ nw) (a2 : (d, W.dictOf [⟨h1, .str (Str.ofString "parent") k1, .ref rg⟩, ⟨h2, .str (Str.ofString "coeffs") k2, .ref l⟩] c) ∈ nw) (a3 : (l, W.listOf (List.toArray vs) k) ∈ nw) (a4 : IntsAre vs cs)
theorem ListIn.mk' {news : Led} {l : Addr} {vs : List Value} {k : Nat} {ns : List Int} (m : (l, W.listOf (List.toArray vs) k) ∈ news) (i : IntsAre vs ns) : ListIn news (.ref l) ns := ⟨_, _, _, rfl, m, i⟩
theorem ListIn.elim {news : Led} {v : Value} {ns : List Int} {C : Prop} (h : ListIn news v ns) (k : ∀ l vs k, v = .ref l → (l, W.listOf (List.toArray vs) k) ∈ news → IntsAre vs ns → C) : C :=
  let ⟨l, vs, kk, e, m, i⟩ := h; k l vs kk e m i
theorem RingIn.mk' {nw : Led} {rg d : Addr} {q : Int} {n : Nat} {h1 h2 : Int} {k1 k2 tq tn : Tok} {c : Nat} (m1 : (rg, instObj 59 d) ∈ nw) (m2 : (d, W.dictOf [⟨h1, .str (Str.ofString "q") k1, .int q tq⟩, ⟨h2, .str (Str.ofString "n") k2, .int (n : Int) tn⟩] c) ∈ nw) : RingIn nw rg q n := ⟨_, _, _, _, _, _, _, _, m1, m2⟩
theorem RingIn.elim {nw : Led} {rg : Addr} {q : Int} {n : Nat} {C : Prop} (h : RingIn nw rg q n) (k : ∀ d h1 k1 h2 k2 tq tn c, (rg, instObj 59 d) ∈ nw → (d, W.dictOf [⟨h1, .str (Str.ofString "q") k1, .int q tq⟩, ⟨h2, .str (Str.ofString "n") k2, .int (n : Int) tn⟩] c) ∈ nw → C) : C :=
  let ⟨d, h1, k1, h2, k2, tq, tn, c, m1, m2⟩ := h; k d h1 k1 h2 k2 tq tn c m1 m2
theorem PolyIn.mk' {nw : Led} {f rg d l : Addr} {cs : List Int} {h1 h2 : Int} {k1 k2 : Tok} {vs : List Value} {k c : Nat} (m1 : (f, instObj 220 d) ∈ nw) (m2 : (d, W.dictOf [⟨h1, .str (Str.ofString "parent") k1, .ref rg⟩, ⟨h2, .str (Str.ofString "coeffs") k2, .ref l⟩] c) ∈ nw) (m3 : (l, W.listOf (List.toArray vs) k) ∈ nw) (i : IntsAre vs cs) : PolyIn nw (.ref f) rg cs := ⟨_, _, _, _, _, _, _, _, _, _, rfl, m1, m2, m3, i⟩
theorem PolyIn.elim {nw : Led} {v : Value} {rg : Addr} {cs : List Int} {C : Prop} (h : PolyIn nw v rg cs) (k : ∀ f d h1 k1 h2 k2 l vs k c, v = .ref f → (f, instObj 220 d) ∈ nw → (d, W.dictOf [⟨h1, .str (Str.ofString "parent") k1, .ref rg⟩, ⟨h2, .str (Str.ofString "coeffs") k2, .ref l⟩] c) ∈ nw → (l, W.listOf (List.toArray vs) k) ∈ nw → IntsAre vs cs → C) : C :=
  let ⟨f, d, h1, k1, h2, k2, l, vs, kk, c, e, m1, m2, m3, i⟩ := h; k f d h1 k1 h2 k2 l vs kk c e m1 m2 m3 i
/-- a new object: its dict stands at none of the old places -/
inductive PolyNew (news nw : Led) (v : Value) (rg : Addr) (cs : List Int) : Prop
  | mk (f d h1 k1 h2 k2 l vs k c) (a0 : v = .ref f) (a1 : (f, instObj 220 d) ∈ nw) (a2 : (d, W.dictOf [⟨h1, .str (Str.ofString "parent") k1, .ref rg⟩, ⟨h2, .str (Str.ofString "coeffs") k2, .ref l⟩] c) ∈ nw) (a3 : (l, W.listOf (List.toArray vs) k) ∈ nw) (a4 : IntsAre vs cs) (a5 : ∀ p ∈ news, p.1 ≠ d)
theorem PolyNew.elim {news nw : Led} {v : Value} {rg : Addr} {cs : List Int} {C : Prop} (h : PolyNew news nw v rg cs) (k : ∀ f d h1 k1 h2 k2 l vs k c, v = .ref f → (f, instObj 220 d) ∈ nw → (d, W.dictOf [⟨h1, .str (Str.ofString "parent") k1, .ref rg⟩, ⟨h2, .str (Str.ofString "coeffs") k2, .ref l⟩] c) ∈ nw → (l, W.listOf (List.toArray vs) k) ∈ nw → IntsAre vs cs → (∀ p ∈ news, p.1 ≠ d) → C) : C :=
  let ⟨f, d, h1, k1, h2, k2, l, vs, kk, c, e, m1, m2, m3, i, n⟩ := h; k f d h1 k1 h2 k2 l vs kk c e m1 m2 m3 i n
theorem PolyNew.mk' {news nw : Led} {f rg d l : Addr} {cs : List Int} {h1 h2 : Int} {k1 k2 : Tok} {vs : List Value} {k c : Nat} (m1 : (f, instObj 220 d) ∈ nw) (m2 : (d, W.dictOf [⟨h1, .str (Str.ofString "parent") k1, .ref rg⟩, ⟨h2, .str (Str.ofString "coeffs") k2, .ref l⟩] c) ∈ nw) (m3 : (l, W.listOf (List.toArray vs) k) ∈ nw) (i : IntsAre vs cs) (n : ∀ p ∈ news, p.1 ≠ d) : PolyNew news nw (.ref f) rg cs := ⟨_, _, _, _, _, _, _, _, _, _, rfl, m1, m2, m3, i, n⟩
theorem allLt_ne {d : Addr} : ∀ {l : Led}, AllLt d l → ∀ p ∈ l, p.1 ≠ d
  | [], _, _, h => nomatch h
  | q :: r, h, p, hp => by
    rcases List.mem_cons.mp hp with rfl | hp
    · exact Nat.ne_of_lt h.1
    · exact allLt_ne h.2 p hp
/-- where the walk is to stand still -/
def Halt (P : Prop) : Prop := P
theorem halt_of {P : Prop} (h : Halt P) : P := h
/-- the bits that a product may have -/
def Bd (x : Int) : Prop := Builtin.Int.intBits x ≤ 2 ^ 22
theorem mulOk_bd {a b : Int} (ha : Bd a) (hb : Bd b) : IntMulOk a b := by
  unfold Bd at ha hb
  have h : Builtin.Int.intTooBig (Builtin.Int.intBits a + Builtin.Int.intBits b) = false := by
    unfold Builtin.Int.intTooBig bitsLine
    exact decide_eq_false (by omega)
  unfold IntMulOk
  rw [h]
  simp
theorem bd_all2 {as : List Int} {a : Int} (m : a ∈ as) (h : ∀ x ∈ as, Bd x) : Bd a := h a m
theorem bd_small {x : Int} (h1 : -(2 ^ 64) < x) (h2 : x < 2 ^ 64) : Bd x := Nat.le_trans (intBits_le_64 h1 h2) (by decide)
theorem bd_fmod {x q : Int} (h1 : 0 < q) (h2 : q ≤ 65536) : Bd (Int.fmod x q) := by
  have a := fmod_lo x h1
  have b := fmod_hi x h1
  exact bd_small (by omega) (by omega)
section
variable {prog : Program} {w : World} {A : Around} {E : Value → Shared → Prop} {s : Shared} {h₀ : Heap} {L : Addr} {m : Str → Option Value} {news : Led}
theorem copy_L {l : Addr} {vs : List Value} {k : Nat} {Q : Value → Shared → Prop} (F : Fr h₀ L s.heap m) (N : News h₀ L s.heap news) (hm : (l, W.listOf vs.toArray k) ∈ news)
    (h : ∀ D h', Fr h₀ L h' m → News h₀ L h' ((D, W.listOf vs.toArray 0) :: news) → (∀ p ∈ news, p.1 < D) → Q (.ref D) { s with heap := h' })
    (hsz : vs.length ≤ sizeLine) : wpAny (model prog w) A (call (.builtin "list.copy") [.ref l]) Q E s :=
  copy_list F N (News.isList N hm) (fun h' F' N' => h _ h' F' N' fun p hp => Heap.lt_size (N p hp).1) hsz
end
end Mine02
end
section
namespace Mine02
theorem off1_ne {D : Addr} : ∀ {l : Led}, LCg.Off1 D l → ∀ p ∈ l, p.1 ≠ D
  | [], _, _, h => nomatch h
  | q :: r, h, p, hp => by
    rcases List.mem_cons.mp hp with rfl | hp
    · exact h.1
    · exact off1_ne h.2 p hp
theorem bd_getD {as : List Int} (h : ∀ x ∈ as, Bd x) (k : Nat) : Bd (as.getD k 0) := by
  rw [List.getD_eq_getElem?_getD]
  cases e : as[k]? with
  | none => exact bd_small (by decide) (by decide)
  | some x => exact h x (List.mem_of_getElem? e)
theorem cmpBack_ref {Q : Value → Shared → Prop} {f : Addr} {s' : Shared} (h : Q (.ref f) s') : W.CmpBack Q (.ref f) s' := h
theorem cmpBack_bool {Q : Value → Shared → Prop} {b : Bool} {s' : Shared} (h : Q (.bool b) s') : W.CmpBack Q (.bool b) s' := h
/-- the end of a turn that changes one list of ints -/
def LEnd (h₀ : Heap) (L : Addr) (stored : List Str) (x : Str) (m₀ : Str → Option Value) (D : Addr) (zn : Led) (ns : List Int) (s₁ : Shared) (Q : Flow → Shared → Prop) (f : Flow) (s₂ : Shared) : Prop :=
  match f with
  | .ret v => Q (.ret v) s₂
  | .brk => Q .next s₂
  | _ => ∃ h' tk m' vs k nw, s₂ = { s₁ with heap := h', toks := tk } ∧ Fr h₀ L h' m' ∧ (∀ z, z ≠ x → stored.contains z = false → m' z = m₀ z) ∧ News h₀ L h' nw ∧ (D, W.listOf (List.toArray vs) k) ∈ nw ∧ Sub zn nw ∧ IntsAre vs ns
section
variable {prog : Program} {w : World} {A : Around} {E : Value → Shared → Prop} {s : Shared} {env : Env} {h₀ : Heap} {x : Str} {body : List Stmt} {Q : Flow → Shared → Prop}
theorem loop_rl {r : Addr} {a₀ b₀ : Int} {t₀ u₀ v₀ : Tok} {n : Nat} {D : Addr} {vs₀ : List Value} {k₀ : Nat} {m₀ : Str → Option Value} {news : Led} (stored : List Str) (G : Nat → List Int)
    (hh : A.handled = none) (hr : IsRange s.heap r a₀ b₀ 1 t₀ u₀ v₀) (hbd : -(2 ^ 62) ≤ a₀ ∧ a₀ < 2 ^ 62 ∧ -(2 ^ 62) ≤ b₀ ∧ b₀ < 2 ^ 62) (hnn : (b₀ - a₀).toNat = n)
    (F : Fr h₀ env.locals s.heap m₀) (N : News h₀ env.locals s.heap ((D, W.listOf vs₀.toArray k₀) :: news)) (hD : ∀ p ∈ news, p.1 ≠ D) (hi : IntsAre vs₀ (G 0))
    (turn : ∀ (i : Nat) (u : Str → Option Value) h tk vs k t zn, i < n → IntsAre vs (G i) → Sub news zn → (∀ p ∈ zn, p.1 ≠ D) →
      Fr h₀ env.locals h (fun y => if y = x then some (.int (a₀ + (i : Int)) t) else if stored.contains y then u y else m₀ y) → News h₀ env.locals h ((D, W.listOf (List.toArray vs) k) :: zn) →
      wpAny (model prog w) A (execs body env) (LEnd h₀ env.locals stored x m₀ D zn (G (i + 1)) { s with heap := h, toks := tk } Q) E { s with heap := h, toks := tk })
    (done : ∀ (u : Str → Option Value) h tk vs k, IntsAre vs (G n) → Fr h₀ env.locals h (fun y => if y = x then u y else if stored.contains y then u y else m₀ y) → News h₀ env.locals h ((D, W.listOf (List.toArray vs) k) :: news) → Q .next { s with heap := h, toks := tk }) :
    wpAny (model prog w) A (pyIter (.ref r)) (fun it s₂ => LoopAtV prog w A h₀ env x body Q E it s₂) E s := by
  have hsmall : Builtin.Range.small a₀ b₀ 1 = true := small_one hbd.1 hbd.2.1 hbd.2.2.1 hbd.2.2.2
  have hn : Builtin.Range.rangeSize a₀ b₀ 1 = (n : Int) := by rw [rangeSize_nat, hnn]
  refine wpAny_pyIter_range hr hsmall ?_
  have Wk : Walks prog w A s.heap.objs.size [s.heap.objs.size] [s.heap.objs.size] n (fun i v => i < n ∧ ∃ t, v = .int (a₀ + i * 1) t)
      (fun i h => IsRangeIter h s.heap.objs.size (a₀ + (i : Nat) * 1) ((n : Int) - (i : Nat)) 1) := (Walks.range hh _ a₀ 1 n).bound
  refine loop_invN (fun i m nx => (∃ vs k, nx = (D, W.listOf (List.toArray vs) k) :: news ∧ IntsAre vs (G i)) ∧ ∀ z, z ≠ x → stored.contains z = false → m z = m₀ z) Wk ?_ ?_ ?_ ?_ (by show IsRangeIter _ _ _ _ _; rw [hn]; simpa using Heap.get?_push_size _ rfl) (F.push _) (fun p hp => ⟨Heap.get?_push_of_some _ (N p hp).1, (N p hp).2⟩) ⟨⟨vs₀, k₀, rfl, hi⟩, fun _ _ _ => rfl⟩ ?_ ?_
  · intro hm
    exact absurd F.ns.lt ((List.mem_singleton.mp hm) ▸ Nat.lt_irrefl _)
  · intro b hb
    rw [List.mem_singleton.mp hb]
    exact next_is_new F
  · intro p hp hI
    exact absurd (Heap.lt_size (N p hp).1) ((List.mem_singleton.mp hI) ▸ Nat.lt_irrefl _)
  · intro p hp hI
    exact absurd (Heap.lt_size (N p hp).1) ((List.mem_singleton.mp hI) ▸ Nat.lt_irrefl _)
  · rintro i v m₁ nx h tk own hin ⟨_, t, rfl⟩ _ hoff ⟨⟨vs, k, rfl, hI⟩, hm⟩ F₁ N₁
    have e1 : a₀ + (i : Int) * 1 = a₀ + (i : Int) := by omega
    rw [e1] at F₁
    have em : (fun y => if y = x then some (Value.int (a₀ + (i : Int)) t) else m₁ y) = fun y => if y = x then some (Value.int (a₀ + (i : Int)) t) else if stored.contains y then m₁ y else m₀ y := by
      funext y
      by_cases h1 : y = x
      · simp [h1]
      · cases h2 : stored.contains y with
        | true => simp
        | false => simp [h1, hm y h1 h2]
    rw [em] at F₁
    rw [List.cons_append] at N₁
    have hoffD : ∀ p ∈ news ++ own, p.1 ≠ D := fun p hp => by
      rcases List.mem_append.mp hp with hp | hp
      · exact hD p hp
      · exact hoff p hp D (by simp)
    refine wpAny_mono (turn i m₁ h tk vs k t (news ++ own) hin hI (fun p hp => List.mem_append_left _ hp) hoffD F₁ N₁) (fun f s₂ p => ?_) fun _ _ e => e
    have fin : (∃ h' tk' m' vs k nw, s₂ = { ({ s with heap := h, toks := tk } : Shared) with heap := h', toks := tk' } ∧ Fr h₀ env.locals h' m' ∧ (∀ z, z ≠ x → stored.contains z = false → m' z = m₀ z) ∧ News h₀ env.locals h' nw ∧ (D, W.listOf (List.toArray vs) k) ∈ nw ∧ Sub (news ++ own) nw ∧ IntsAre vs (G (i + 1))) →
        InvEndN h₀ env.locals (fun m nx => (∃ vs k, nx = (D, W.listOf (List.toArray vs) k) :: news ∧ IntsAre vs (G (i + 1))) ∧ ∀ z, z ≠ x → stored.contains z = false → m z = m₀ z) own (((D, W.listOf vs₀.toArray k₀) :: news).map (·.1)) { s with heap := h, toks := tk } s₂ := by
      rintro ⟨h', tk', m', vs', k', nw, rfl, F', hm', N', hmD, hS, hI'⟩
      refine ⟨h', tk', m', nw, (D, W.listOf (List.toArray vs') k') :: news, rfl, F', N', fun p hp => ?_, fun p hp => hS p (List.mem_append_right _ hp), rfl, ⟨vs', k', rfl, hI'⟩, hm'⟩
      rcases List.mem_cons.mp hp with rfl | hp
      · exact hmD
      · exact hS p (List.mem_append_left _ hp)
    cases f with
    | ret v => exact p
    | brk => exact p
    | next => exact fin p
    | cont => exact fin p
  · rintro m₁ nx h tk ⟨⟨vs, k, rfl, hI⟩, hm⟩ F₁ N₁
    have em : (fun y => if y = x then m₁ y else if stored.contains y then m₁ y else m₀ y) = m₁ := by
      funext y
      by_cases h1 : y = x
      · simp [h1]
      · cases h2 : stored.contains y with
        | true => simp
        | false => simp [h1, hm y h1 h2]
    exact done m₁ h tk vs k hI (by rw [em]; exact F₁) N₁
theorem LEnd.intro {L : Addr} {stored : List Str} {m₀ m' : Str → Option Value} {D : Addr} {zn nw : Led} {ns : List Int} {s₁ : Shared} {h' : Heap} {tk : Nat} {vs : List Value} {k : Nat} (F : Fr h₀ L h' m') (N : News h₀ L h' nw) (hm : (D, W.listOf (List.toArray vs) k) ∈ nw) (S : Sub zn nw) (hI : IntsAre vs ns)
    (hr : ∀ z, z ≠ x → stored.contains z = false → m' z = m₀ z) : LEnd h₀ L stored x m₀ D zn ns s₁ Q .next { s₁ with heap := h', toks := tk } :=
  ⟨h', tk, m', vs, k, nw, rfl, F, hr, N, hm, S, hI⟩
end
/-- the product's loops, as the text has them -/
def inner1 (a b : List Int) (i : Nat) : Nat → List Int → List Int
  | 0, c => c
  | j + 1, c => let c' := inner1 a b i j c; c'.set (i + j) (c'.getD (i + j) 0 + a.getD i 0 * b.getD j 0)
def outer1 (a b : List Int) (n : Nat) : Nat → List Int
  | 0 => List.replicate n 0
  | i + 1 => inner1 a b i (n - i) (outer1 a b n i)
def inner2 (a b : List Int) (n j : Nat) : Nat → List Int → List Int
  | 0, c => c
  | t + 1, c => let c' := inner2 a b n j t c; c'.set t (c'.getD t 0 - a.getD (n - j + t) 0 * b.getD j 0)
def outer2 (a b : List Int) (n : Nat) : Nat → List Int
  | 0 => outer1 a b n n
  | s + 1 => inner2 a b n (s + 1) (s + 1) (outer2 a b n s)
def sbook (a b : List Int) (n : Nat) : List Int := outer2 a b n (n - 1)
def mulq (q : Int) (n : Nat) (a b : List Int) : List Int := (sbook a b n).map fun c => Int.fmod c q
theorem bd_mapf {q : Int} (h : 0 < q) (h2 : q ≤ 65536) (f : Int → Int) (l : List Int) : ∀ a ∈ l.map (fun c => Int.fmod (f c) q), Bd a := fun a ha => by
  obtain ⟨x, _, rfl⟩ := List.mem_map.mp ha
  exact bd_fmod h h2
theorem bd_zipf {q : Int} (h : 0 < q) (h2 : q ≤ 65536) (f : Int → Int → Int) (l m : List Int) : ∀ a ∈ List.zipWith (fun x y => Int.fmod (f x y) q) l m, Bd a := fun a ha => by
  rw [← List.map_uncurry_zip_eq_zipWith] at ha
  obtain ⟨x, _, rfl⟩ := List.mem_map.mp ha
  exact bd_fmod h h2
theorem inner1_length (a b : List Int) (i : Nat) : ∀ j c, (inner1 a b i j c).length = c.length
  | 0, _ => rfl
  | j + 1, c => by rw [inner1, List.length_set, inner1_length]
theorem outer1_length (a b : List Int) (n : Nat) : ∀ i, (outer1 a b n i).length = n
  | 0 => by rw [outer1, List.length_replicate]
  | i + 1 => by rw [outer1, inner1_length, outer1_length]
theorem inner2_length (a b : List Int) (n j : Nat) : ∀ t c, (inner2 a b n j t c).length = c.length
  | 0, _ => rfl
  | t + 1, c => by rw [inner2, List.length_set, inner2_length]
theorem outer2_length (a b : List Int) (n : Nat) : ∀ s, (outer2 a b n s).length = n
  | 0 => by rw [outer2, outer1_length]
  | s + 1 => by rw [outer2, inner2_length, outer2_length]
end Mine02
end
section
namespace Mine02
/-- a ledger without one iterator -/
def offI (I : Addr) (nw : Led) : Led := nw.filter fun p => decide (p.1 ≠ I)
theorem mem_offI {I : Addr} {nw : Led} {p : Addr × Obj} (h : p ∈ nw) (hne : p.1 ≠ I) : p ∈ offI I nw := List.mem_filter.mpr ⟨h, decide_eq_true hne⟩
theorem of_offI {I : Addr} {nw : Led} {p : Addr × Obj} (h : p ∈ offI I nw) : p ∈ nw ∧ p.1 ≠ I := ⟨(List.mem_filter.mp h).1, of_decide_eq_true (List.mem_filter.mp h).2⟩
def IterOnly (I : Addr) (nw : Led) : Prop := ∀ p ∈ nw, p.1 = I → p.2.cls = .type "range_iterator"
theorem ListIn.off {I : Addr} {nw : Led} {v : Value} {ns : List Int} (h : ListIn nw v ns) (hI : IterOnly I nw) : ListIn (offI I nw) v ns := by
  obtain ⟨l, vs, k, e, m, i⟩ := h
  exact ⟨l, vs, k, e, mem_offI m (fun q => by have := hI _ m q; simp at this), i⟩
theorem PolyIn.off {I : Addr} {nw : Led} {v : Value} {rg : Addr} {cs : List Int} (h : PolyIn nw v rg cs) (hI : IterOnly I nw) : PolyIn (offI I nw) v rg cs := by
  obtain ⟨f, d, h1, k1, h2, k2, l, vs, k, c, e, m1, m2, m3, i⟩ := h
  exact ⟨f, d, h1, k1, h2, k2, l, vs, k, c, e, mem_offI m1 (fun q => by have := hI _ m1 q; simp at this), mem_offI m2 (fun q => by have := hI _ m2 q; simp at this), mem_offI m3 (fun q => by have := hI _ m3 q; simp at this), i⟩
theorem ListIn.mono {a b : Led} {v : Value} {ns : List Int} (h : ListIn a v ns) (s : Sub a b) : ListIn b v ns := by
  obtain ⟨l, vs, k, e, m, i⟩ := h
  exact ⟨l, vs, k, e, s _ m, i⟩
/-- the end of a turn that may make things and keep them -/
def NEnd (h₀ : Heap) (L : Addr) (zn : Led) (R : (Str → Option Value) → Led → Prop) (s₁ : Shared) (Q : Flow → Shared → Prop) (f : Flow) (s₂ : Shared) : Prop :=
  match f with
  | .ret v => Q (.ret v) s₂
  | .brk => Q .next s₂
  | _ => ∃ h' tk' m' nw, s₂ = { s₁ with heap := h', toks := tk' } ∧ Fr h₀ L h' m' ∧ News h₀ L h' nw ∧ Sub zn nw ∧ R m' nw
theorem frK {h₀ h : Heap} {L : Addr} {x : Str} {m₁ m₂ : Str → Option Value} (F : Fr h₀ L h m₁) (hm : ∀ z, z ≠ x → m₁ z = m₂ z) : Fr h₀ L h (fun y => if y = x then m₁ y else m₂ y) := by
  have e : (fun y => if y = x then m₁ y else m₂ y) = m₁ := by
    funext y
    by_cases h1 : y = x
    · simp [h1]
    · simp [h1, hm y h1]
  rw [e]; exact F
section
variable {prog : Program} {w : World} {A : Around} {E : Value → Shared → Prop} {s : Shared} {env : Env} {h₀ : Heap} {x : Str} {body : List Stmt} {Q : Flow → Shared → Prop}
theorem loop_new {r : Addr} {a₀ b₀ : Int} {t₀ u₀ v₀ : Tok} {n : Nat} {m₀ : Str → Option Value} {news : Led} (R : Nat → (Str → Option Value) → Led → Prop)
    (hh : A.handled = none) (hr : IsRange s.heap r a₀ b₀ 1 t₀ u₀ v₀) (hbd : -(2 ^ 62) ≤ a₀ ∧ a₀ < 2 ^ 62 ∧ -(2 ^ 62) ≤ b₀ ∧ b₀ < 2 ^ 62) (hnn : (b₀ - a₀).toNat = n)
    (F : Fr h₀ env.locals s.heap m₀) (N : News h₀ env.locals s.heap news) (h0 : R 0 m₀ news)
    (hmono : ∀ i m a b, R i m a → Sub a b → R i m b)
    (hclean : ∀ i m nw I, R i m nw → IterOnly I nw → (∀ p ∈ news, p.1 ≠ I) → R i m (offI I nw))
    (turn : ∀ (i : Nat) m₁ h tk t nw, i < n → R i m₁ nw → Fr h₀ env.locals h (fun y => if y = x then some (.int (a₀ + (i : Int)) t) else m₁ y) → News h₀ env.locals h nw →
      wpAny (model prog w) A (execs body env) (NEnd h₀ env.locals nw (R (i + 1)) { s with heap := h, toks := tk } Q) E { s with heap := h, toks := tk })
    (done : ∀ m₁ h tk nw, R n m₁ nw → Fr h₀ env.locals h m₁ → News h₀ env.locals h nw → Q .next { s with heap := h, toks := tk }) :
    wpAny (model prog w) A (pyIter (.ref r)) (fun it s₂ => LoopAtV prog w A h₀ env x body Q E it s₂) E s := by
  have hsmall : Builtin.Range.small a₀ b₀ 1 = true := small_one hbd.1 hbd.2.1 hbd.2.2.1 hbd.2.2.2
  have hn : Builtin.Range.rangeSize a₀ b₀ 1 = (n : Int) := by rw [rangeSize_nat, hnn]
  refine wpAny_pyIter_range hr hsmall ?_
  have Wk : Walks prog w A s.heap.objs.size [s.heap.objs.size] [s.heap.objs.size] n (fun i v => i < n ∧ ∃ t, v = .int (a₀ + i * 1) t)
      (fun i h => IsRangeIter h s.heap.objs.size (a₀ + (i : Nat) * 1) ((n : Int) - (i : Nat)) 1) := (Walks.range hh _ a₀ 1 n).bound
  have hnews : ∀ p ∈ news, p.1 ≠ s.heap.objs.size := fun p hp => Nat.ne_of_lt (Heap.lt_size (N p hp).1)
  refine ⟨s.heap.objs.size, _, _, n, _, _, m₀, news, fun i m nw => R i m nw, rfl, Wk, ?_, ?_, ?_, (by show IsRangeIter _ _ _ _ _; rw [hn]; simpa using Heap.get?_push_size _ rfl), F.push _, (fun p hp => ⟨Heap.get?_push_of_some _ (N p hp).1, (N p hp).2⟩), h0, ?_, ?_⟩
  · intro hm
    exact absurd F.ns.lt ((List.mem_singleton.mp hm) ▸ Nat.lt_irrefl _)
  · intro b hb
    rw [List.mem_singleton.mp hb]
    exact next_is_new F
  · intro p hp hI
    exact hnews p hp (List.mem_singleton.mp hI)
  · rintro i v m₁ nx s₁ own ⟨h, tk, rfl⟩ hin ⟨_, t, rfl⟩ hR hoff hown hownh hall hst F₁ N₁
    have e1 : a₀ + (i : Int) * 1 = a₀ + (i : Int) := by omega
    rw [e1] at F₁
    have hstI : IsRangeIter h s.heap.objs.size (a₀ + ((i + 1 : Nat) : Int) * 1) ((n : Int) - ((i + 1 : Nat) : Int)) 1 := hst
    refine wpAny_mono (turn i m₁ h tk t (own ++ nx) hin (hmono _ _ _ _ hR fun p hp => List.mem_append_right _ hp) F₁ N₁) (fun f s₂ p => ?_) fun _ _ e => e
    have fin : (∃ h' tk' m' nw, s₂ = { ({ s with heap := h, toks := tk } : Shared) with heap := h', toks := tk' } ∧ Fr h₀ env.locals h' m' ∧ News h₀ env.locals h' nw ∧ Sub (own ++ nx) nw ∧ R (i + 1) m' nw) →
        LoopStepU h₀ env.locals [s.heap.objs.size] own (fun m nw => R (i + 1) m nw) { s with heap := h, toks := tk } .next s₂ := by
      rintro ⟨h', tk', m', nw, rfl, F', N', hS, hR'⟩
      have hI := hall s.heap.objs.size (List.mem_singleton.mpr rfl) (next_is_new F) _ hstI
      have hIh := (N' _ (hS _ (List.mem_append_left _ hI))).1
      have hIter : IterOnly s.heap.objs.size nw := fun p hp hq => by
        have := (N' p hp).1
        rw [hq, hIh] at this
        rw [← Option.some.inj this]
      refine ⟨rfl, h', tk', m', offI s.heap.objs.size nw, rfl, F', fun p hp => ?_, fun p hp hq => (of_offI hp).2 (List.mem_singleton.mp hq), hclean _ _ _ _ hR' hIter hnews⟩
      rcases List.mem_append.mp hp with hp | hp
      · exact N' p (hS p (List.mem_append_left _ hp))
      · exact N' p (of_offI hp).1
    cases f with
    | ret v => exact p
    | brk => exact p
    | next => exact fin p
    | cont => exact fin p
  · rintro h' tk m' news' F' N' _ hR
    exact done m' h' tk news' hR F' N'
/-- the same; what holds may speak of the locals as they stood at the loop's head -/
theorem loop_newM {r : Addr} {a₀ b₀ : Int} {t₀ u₀ v₀ : Tok} {n : Nat} {m₀ : Str → Option Value} {news : Led} (R : (Str → Option Value) → Nat → (Str → Option Value) → Led → Prop)
    (hh : A.handled = none) (hr : IsRange s.heap r a₀ b₀ 1 t₀ u₀ v₀) (hbd : -(2 ^ 62) ≤ a₀ ∧ a₀ < 2 ^ 62 ∧ -(2 ^ 62) ≤ b₀ ∧ b₀ < 2 ^ 62) (hnn : (b₀ - a₀).toNat = n)
    (F : Fr h₀ env.locals s.heap m₀) (N : News h₀ env.locals s.heap news) (h0 : R m₀ 0 m₀ news)
    (hmono : ∀ i m a b, R m₀ i m a → Sub a b → R m₀ i m b)
    (hclean : ∀ i m nw I, R m₀ i m nw → IterOnly I nw → (∀ p ∈ news, p.1 ≠ I) → R m₀ i m (offI I nw))
    (turn : ∀ (i : Nat) m₁ h tk t nw, i < n → R m₀ i m₁ nw → Fr h₀ env.locals h (fun y => if y = x then some (.int (a₀ + (i : Int)) t) else m₁ y) → News h₀ env.locals h nw →
      wpAny (model prog w) A (execs body env) (NEnd h₀ env.locals nw (R m₀ (i + 1)) { s with heap := h, toks := tk } Q) E { s with heap := h, toks := tk })
    (done : ∀ m₁ h tk nw, R m₀ n m₁ nw → Fr h₀ env.locals h m₁ → News h₀ env.locals h nw → Q .next { s with heap := h, toks := tk }) :
    wpAny (model prog w) A (pyIter (.ref r)) (fun it s₂ => LoopAtV prog w A h₀ env x body Q E it s₂) E s :=
  loop_new (R m₀) hh hr hbd hnn F N h0 hmono hclean turn done
theorem NEnd.intro {L : Addr} {zn nw : Led} {R : (Str → Option Value) → Led → Prop} {s₁ : Shared} {h' : Heap} {tk : Nat} {m' : Str → Option Value} (F : Fr h₀ L h' m') (N : News h₀ L h' nw) (S : Sub zn nw) (hR : R m' nw) : NEnd h₀ L zn R s₁ Q .next { s₁ with heap := h', toks := tk } :=
  ⟨h', tk, m', nw, rfl, F, N, S, hR⟩

/-- a loop that changes one list of ints, said by what holds of it -/
theorem loop_rp {r : Addr} {a₀ b₀ : Int} {t₀ u₀ v₀ : Tok} {n : Nat} {D : Addr} {vs₀ : List Value} {ns₀ : List Int} {k₀ : Nat} {m₀ : Str → Option Value} {news : Led} (stored : List Str) (P : Nat → (Str → Option Value) → List Int → Prop)
    (hh : A.handled = none) (hr : IsRange s.heap r a₀ b₀ 1 t₀ u₀ v₀) (hbd : -(2 ^ 62) ≤ a₀ ∧ a₀ < 2 ^ 62 ∧ -(2 ^ 62) ≤ b₀ ∧ b₀ < 2 ^ 62) (hnn : (b₀ - a₀).toNat = n)
    (F : Fr h₀ env.locals s.heap m₀) (N : News h₀ env.locals s.heap ((D, W.listOf vs₀.toArray k₀) :: news)) (hD : ∀ p ∈ news, p.1 ≠ D) (hi : IntsAre vs₀ ns₀) (h0 : P 0 m₀ ns₀)
    (turn : ∀ (i : Nat) (m₁ : Str → Option Value) h tk vs ns k t zn, i < n → IntsAre vs ns → P i m₁ ns → Sub news zn → (∀ p ∈ zn, p.1 ≠ D) →
      Fr h₀ env.locals h (fun y => if y = x then some (.int (a₀ + (i : Int)) t) else if stored.contains y then m₁ y else m₀ y) → News h₀ env.locals h ((D, W.listOf (List.toArray vs) k) :: zn) →
      wpAny (model prog w) A (execs body env) (NEnd h₀ env.locals zn (fun m nw => (∀ z, z ≠ x → stored.contains z = false → m z = m₀ z) ∧ ∃ vs ns k, (D, W.listOf (List.toArray vs) k) ∈ nw ∧ IntsAre vs ns ∧ P (i + 1) m ns) { s with heap := h, toks := tk } Q) E { s with heap := h, toks := tk })
    (done : ∀ (m₁ : Str → Option Value) h tk vs ns k, IntsAre vs ns → P n m₁ ns → Fr h₀ env.locals h (fun y => if y = x then m₁ y else if stored.contains y then m₁ y else m₀ y) → News h₀ env.locals h ((D, W.listOf (List.toArray vs) k) :: news) → Q .next { s with heap := h, toks := tk }) :
    wpAny (model prog w) A (pyIter (.ref r)) (fun it s₂ => LoopAtV prog w A h₀ env x body Q E it s₂) E s := by
  have hsmall : Builtin.Range.small a₀ b₀ 1 = true := small_one hbd.1 hbd.2.1 hbd.2.2.1 hbd.2.2.2
  have hn : Builtin.Range.rangeSize a₀ b₀ 1 = (n : Int) := by rw [rangeSize_nat, hnn]
  refine wpAny_pyIter_range hr hsmall ?_
  have Wk : Walks prog w A s.heap.objs.size [s.heap.objs.size] [s.heap.objs.size] n (fun i v => i < n ∧ ∃ t, v = .int (a₀ + i * 1) t)
      (fun i h => IsRangeIter h s.heap.objs.size (a₀ + (i : Nat) * 1) ((n : Int) - (i : Nat)) 1) := (Walks.range hh _ a₀ 1 n).bound
  refine loop_invN (fun i m nx => (∃ vs ns k, nx = (D, W.listOf (List.toArray vs) k) :: news ∧ IntsAre vs ns ∧ P i m ns) ∧ ∀ z, z ≠ x → stored.contains z = false → m z = m₀ z) Wk ?_ ?_ ?_ ?_ (by show IsRangeIter _ _ _ _ _; rw [hn]; simpa using Heap.get?_push_size _ rfl) (F.push _) (fun p hp => ⟨Heap.get?_push_of_some _ (N p hp).1, (N p hp).2⟩) ⟨⟨vs₀, ns₀, k₀, rfl, hi, h0⟩, fun _ _ _ => rfl⟩ ?_ ?_
  · intro hm
    exact absurd F.ns.lt ((List.mem_singleton.mp hm) ▸ Nat.lt_irrefl _)
  · intro b hb
    rw [List.mem_singleton.mp hb]
    exact next_is_new F
  · intro p hp hI
    exact absurd (Heap.lt_size (N p hp).1) ((List.mem_singleton.mp hI) ▸ Nat.lt_irrefl _)
  · intro p hp hI
    exact absurd (Heap.lt_size (N p hp).1) ((List.mem_singleton.mp hI) ▸ Nat.lt_irrefl _)
  · rintro i v m₁ nx h tk own hin ⟨_, t, rfl⟩ _ hoff ⟨⟨vs, ns, k, rfl, hI, hP⟩, hm⟩ F₁ N₁
    have e1 : a₀ + (i : Int) * 1 = a₀ + (i : Int) := by omega
    rw [e1] at F₁
    have em : (fun y => if y = x then some (Value.int (a₀ + (i : Int)) t) else m₁ y) = fun y => if y = x then some (Value.int (a₀ + (i : Int)) t) else if stored.contains y then m₁ y else m₀ y := by
      funext y
      by_cases h1 : y = x
      · simp [h1]
      · cases h2 : stored.contains y with
        | true => simp
        | false => simp [h1, hm y h1 h2]
    rw [em] at F₁
    rw [List.cons_append] at N₁
    have hoffD : ∀ p ∈ news ++ own, p.1 ≠ D := fun p hp => by
      rcases List.mem_append.mp hp with hp | hp
      · exact hD p hp
      · exact hoff p hp D (by simp)
    refine wpAny_mono (turn i m₁ h tk vs ns k t (news ++ own) hin hI hP (fun p hp => List.mem_append_left _ hp) hoffD F₁ N₁) (fun f s₂ p => ?_) fun _ _ e => e
    have fin : (∃ h' tk' m' nw, s₂ = { ({ s with heap := h, toks := tk } : Shared) with heap := h', toks := tk' } ∧ Fr h₀ env.locals h' m' ∧ News h₀ env.locals h' nw ∧ Sub (news ++ own) nw ∧ (∀ z, z ≠ x → stored.contains z = false → m' z = m₀ z) ∧ ∃ vs ns k, (D, W.listOf (List.toArray vs) k) ∈ nw ∧ IntsAre vs ns ∧ P (i + 1) m' ns) →
        InvEndN h₀ env.locals (fun m nx => (∃ vs ns k, nx = (D, W.listOf (List.toArray vs) k) :: news ∧ IntsAre vs ns ∧ P (i + 1) m ns) ∧ ∀ z, z ≠ x → stored.contains z = false → m z = m₀ z) own (((D, W.listOf vs₀.toArray k₀) :: news).map (·.1)) { s with heap := h, toks := tk } s₂ := by
      rintro ⟨h', tk', m', nw, rfl, F', N', hS, hm', vs', ns', k', hmD, hI', hP'⟩
      refine ⟨h', tk', m', nw, (D, W.listOf (List.toArray vs') k') :: news, rfl, F', N', fun p hp => ?_, fun p hp => hS p (List.mem_append_right _ hp), rfl, ⟨vs', ns', k', rfl, hI', hP'⟩, hm'⟩
      rcases List.mem_cons.mp hp with rfl | hp
      · exact hmD
      · exact hS p (List.mem_append_left _ hp)
    cases f with
    | ret v => exact p
    | brk => exact p
    | next => exact fin p
    | cont => exact fin p
  · rintro m₁ nx h tk ⟨⟨vs, ns, k, rfl, hI, hP⟩, hm⟩ F₁ N₁
    have em : (fun y => if y = x then m₁ y else if stored.contains y then m₁ y else m₀ y) = m₁ := by
      funext y
      by_cases h1 : y = x
      · simp [h1]
      · cases h2 : stored.contains y with
        | true => simp
        | false => simp [h1, hm y h1 h2]
    exact done m₁ h tk vs ns k hI hP (by rw [em]; exact F₁) N₁
end
end Mine02
end
section
namespace Mine02
open LCg LCp
/-- the end of an element's value in a comprehension over zip -/
def ZEnd (h₀ : Heap) (L : Addr) (m : Str → Option Value) (s : Shared) (led : Led) (r : Int) (y : Value) (s' : Shared) : Prop :=
  ∃ h' tk' t, s' = { s with heap := h', toks := tk' } ∧ y = .int r t ∧ Fr h₀ L h' m ∧ News h₀ L h' led
section
variable {prog : Program} {w : World} {A : Around} {E : Value → Shared → Prop} {s : Shared} {h₀ : Heap} {L : Addr} {m : Str → Option Value} {env : Env}
abbrev ZSt (z TI TO i1 i2 l1 l2 : Addr) (xs ys : Array Value) (i : Nat) (h : Heap) : Prop :=
  IsZip h z TI TO .none ∧ IsPair h TI (.ref i1) (.ref i2) ∧ (∃ a b, IsPair h TO a b) ∧ h.IsListIter i1 l1 i ∧ h.IsListIter i2 l2 i ∧ h.IsList l1 xs ∧ h.IsList l2 ys
theorem blockZ {elt iter : Expr} {x x₂ : Str} {px px₂ tp : Pos} {tk0} {scope : Scope} {cl : List (Str × Addr)} {pos : Pos} {s₂ : Shared} {z TI TO i1 i2 l1 l2 : Addr} {xs ys : List Value} {as bs : List Int} (g : Int → Int → Int) {news : Led}
    {RR : Value → Addr → Result → Shared → Prop}
    (hh : A.handled = none) (D : ZipApart z TI TO i1 i2 l1 l2) (hst : ZSt z TI TO i1 i2 l1 l2 xs.toArray ys.toArray 0 s₂.heap) (hi1 : IntsAre xs as) (hi2 : IntsAre ys bs) (hlen : as.length = bs.length) (hsz : as.length ≤ sizeLine)
    (hcell : ∀ y ∈ scope.names, y.2 ≠ .cell) (hkind : scope.kind = .function) (hx : scope.names.lookup x = some .local) (hx₂ : scope.names.lookup x₂ = some .local) (hxx : x ≠ x₂)
    (F : Fr h₀ L s₂.heap m) (N : News h₀ L s₂.heap news) (hz : ∀ b ∈ [z, TI, TO, i1, i2], L ≠ b ∧ h₀.get? b = none ∧ ∀ p ∈ news, p.1 ≠ b)
    (hlists : ∀ h, (∀ b o, h₀.get? b = some o → h.get? b = some o) → News h₀ L h news → h.IsList l1 xs.toArray ∧ h.IsList l2 ys.toArray)
    (turn : ∀ a b ta tb C oC D₁ m₂ vs h tk zn (E' : Value → Shared → Prop), a ∈ as → b ∈ bs → NsObj oC m₂ → m₂ x = some (.int a ta) → m₂ x₂ = some (.int b tb) → Fr h₀ L h m → Sub news zn → News h₀ L h ((C, oC) :: (D₁, lst vs) :: zn) →
      wpAny (model prog w) A (eval elt (compEnvC scope cl C env)) (ZEnd h₀ L m { s₂ with heap := h, toks := tk } ((C, oC) :: (D₁, lst vs) :: zn) (g a b)) E' { s₂ with heap := h, toks := tk })
    (hRR : ∀ D₁ C h tk m' vs, Fr h₀ L h m → News h₀ L h ((D₁, lst vs) :: news) → (∀ p ∈ news, p.1 ≠ D₁) → h.Ns C m' → h₀.get? C = none → h₀.get? D₁ = none → C ≠ L → D₁ ≠ L → C ≠ D₁ → (∀ p ∈ news, p.1 ≠ C) → IntsAre vs (List.zipWith g as bs) → RR (.ref D₁) C (.ok .next) { s₂ with heap := h, toks := tk }) :
    wpAny (model prog w) A (newList []) (fun acc s₃ => wpAny (model prog w) A (newFunctionEnv scope env.globals cl [] env.qual none .none (some env)) (fun cenv s₄ =>
      codeAny (model prog w) A (.compStart (.ListComp elt [⟨.Tuple [.Name x px, .Name x₂ px₂] tk0 tp, iter, [], 0⟩] scope pos) 0 (.ref z) acc { cenv with scope := relabel scope env }) (RR acc cenv.locals) s₄) E s₃) E s₂ := by
  have W := WalksT.zip2 (prog := prog) (w := w) hh z TI TO i1 i2 l1 l2 D xs.toArray ys.toArray
  have hn : min xs.toArray.size ys.toArray.size = as.length := by rw [List.size_toArray, List.size_toArray, hi1.length, hi2.length, hlen, Nat.min_self]
  rw [hn] at W
  have hfp : ∀ b ∈ [z, TI, TO, i1, i2, l1, l2], b < s₂.heap.objs.size := by
    obtain ⟨q1, q2, ⟨_, _, q3⟩, ⟨_, q4, _⟩, ⟨_, q5, _⟩, ⟨_, q6, _⟩, ⟨_, q7, _⟩⟩ := hst
    intro b hb
    simp only [List.mem_cons, List.not_mem_nil, or_false] at hb
    rcases hb with rfl | rfl | rfl | rfl | rfl | rfl | rfl <;> exact Heap.lt_size (by assumption)
  refine wpAny_newObj_type (wpAny_newFunctionEnv hcell (by intro y hy; simp at hy) (fun h₁ hns₁ hsb₁ => ?_) hkind)
  dsimp only at hns₁ hsb₁ ⊢
  generalize hH2 : s₂.heap.push { cls := .type "list", dict := none, data := .seq ([] : List Value).toArray } = H2 at hns₁ hsb₁ ⊢
  have hC : H2.objs.size = s₂.heap.objs.size + 1 := by rw [← hH2, Heap.size_push]
  have hDC : s₂.heap.objs.size ≠ H2.objs.size := by rw [hC]; exact Nat.ne_of_lt (Nat.lt_succ_self _)
  have below : ∀ b, b < s₂.heap.objs.size → b ≠ H2.objs.size ∧ b ≠ s₂.heap.objs.size := fun b hb => ⟨by rw [hC]; exact Nat.ne_of_lt (Nat.lt_succ_of_lt hb), Nat.ne_of_lt hb⟩
  have old : ∀ b o, s₂.heap.get? b = some o → h₁.get? b = some o := fun b o e => hsb₁.extBut b o (below b (Heap.lt_size e)).1 (Heap.get?_push_of_some _ (hH2 ▸ Heap.get?_push_of_some _ e))
  have hacc : h₁.get? s₂.heap.objs.size = some (lst []) := hsb₁.extBut _ _ hDC (Heap.get?_push_of_some _ (hH2 ▸ Heap.get?_push_size _ rfl))
  have hst₁ : ZSt z TI TO i1 i2 l1 l2 xs.toArray ys.toArray 0 h₁ := W.frame _ _ _ hst fun b _ o e => old b o e
  have fresh : ∀ a, s₂.heap.objs.size ≤ a → s₂.heap.get? a = none := fun a ha => by
    cases e : s₂.heap.get? a with
    | none => rfl
    | some o' => exact absurd (Heap.lt_size e) (Nat.not_lt.mpr ha)
  have fresh₀ : ∀ a, s₂.heap.objs.size ≤ a → h₀.get? a = none := fun a ha => by
    cases e : h₀.get? a with
    | none => rfl
    | some o' => have := F.keep a o' e; rw [fresh a ha] at this; cases this
  have hD₀ : h₀.get? s₂.heap.objs.size = none := fresh₀ _ (Nat.le_refl _)
  have hC₀ : h₀.get? H2.objs.size = none := fresh₀ _ (by rw [hC]; exact Nat.le_succ _)
  have hLlt : L < s₂.heap.objs.size := F.ns.lt
  have hDL : s₂.heap.objs.size ≠ L := Ne.symm (below L hLlt).2
  have hCL : H2.objs.size ≠ L := Ne.symm (below L hLlt).1
  have hND : ∀ p ∈ news, p.1 ≠ s₂.heap.objs.size := fun p hp => (below _ (Heap.lt_size (N p hp).1)).2
  have hNC : ∀ p ∈ news, p.1 ≠ H2.objs.size := fun p hp => (below _ (Heap.lt_size (N p hp).1)).1
  have hwr : ∀ b, b ∈ [z, TO, i1, i2] → L ≠ b ∧ h₀.get? b = none ∧ ∀ p ∈ news, p.1 ≠ b := fun b hb => hz b (by
    simp only [List.mem_cons, List.not_mem_nil, or_false] at hb ⊢
    rcases hb with rfl | rfl | rfl | rfl <;> simp)
  have hLw : L ∉ [z, TO, i1, i2] := fun hm => (hwr _ hm).1 rfl
  have hNw : ∀ p ∈ news, p.1 ∉ [z, TO, i1, i2] := fun p hp hm => (hwr _ hm).2.2 p hp rfl
  have hlt5 : ∀ b ∈ [z, TO, i1, i2], b < s₂.heap.objs.size := fun b hb => hfp b (by
    simp only [List.mem_cons, List.not_mem_nil, or_false] at hb ⊢
    rcases hb with rfl | rfl | rfl | rfl <;> simp)
  have hDw : s₂.heap.objs.size ∉ [z, TO, i1, i2] := fun hm => Nat.lt_irrefl _ (hlt5 _ hm)
  have hCw : H2.objs.size ∉ [z, TO, i1, i2] := fun hm => by have := hlt5 _ hm; rw [hC] at this; exact Nat.lt_irrefl _ (Nat.lt_of_succ_lt this)
  have frW : ∀ {h h' : Heap}, Fr h₀ L h m → (∀ b o, b ∉ [z, TO, i1, i2] → h.get? b = some o → h'.get? b = some o) → Fr h₀ L h' m := fun {h h'} F' hk =>
    ⟨F'.ns.at' fun o e => hk L o hLw e, fun b o e => hk b o (fun hm => by rw [(hwr b hm).2.1] at e; cases e) (F'.keep b o e), F'.above⟩
  have nwW : ∀ {h h' : Heap}, News h₀ L h news → (∀ b o, b ∉ [z, TO, i1, i2] → h.get? b = some o → h'.get? b = some o) → News h₀ L h' news := fun {h h'} N' hk p hp => ⟨hk _ _ (hNw p hp) (N' p hp).1, (N' p hp).2⟩
  have loop : ∀ s₃ : Shared, s₃ = { s₂ with heap := h₁, toks := s₂.toks + ([] : List (Str × Value)).length } →
      codeAny (model prog w) A (.compLoop (.ListComp elt [⟨.Tuple [.Name x px, .Name x₂ px₂] tk0 tp, iter, [], 0⟩] scope pos) 0 (.ref z) (.ref s₂.heap.objs.size) (compEnvC scope cl H2.objs.size env))
        (RR (.ref s₂.heap.objs.size) H2.objs.size) s₃ := by
    rintro s₃ rfl
    refine codeAny_compLoop_pair
      (fun k s' => ∃ h' tk i vs m', s' = { s₂ with heap := h', toks := tk } ∧ i ≤ as.length ∧ k = as.length + 1 - i ∧ vs.length = i ∧ ZSt z TI TO i1 i2 l1 l2 xs.toArray ys.toArray i h' ∧ Fr h₀ L h' m ∧ h'.Ns H2.objs.size m' ∧
        h'.get? s₂.heap.objs.size = some (lst vs) ∧ News h₀ L h' news ∧ IntsAre vs ((List.zipWith g as bs).take i)) ?_ (as.length + 1)
      ⟨h₁, _, 0, [], _, rfl, Nat.zero_le _, rfl, rfl, hst₁, F.keeps old, hns₁, hacc, fun p hp => ⟨old _ _ (N p hp).1, (N p hp).2⟩, by rw [List.take_zero]; exact .nil⟩
    rintro k s' ⟨h', tk, i, vs, m', rfl, hi, rfl, hvl, hst', F', hn', hD', N', hI'⟩
    by_cases hlt : i < as.length
    · refine W.item i _ _ _ hlt hst' fun T vals h₂ tk₂ hP hT hIT hMid hk₂ => ?_
      obtain ⟨vx, vy, ex, ey, rfl⟩ := hP
      have hTw := W.apart _ _ _ hMid
      refine W.go _ _ _ i T _ _ _ hMid fun h₂' hst₂ hk₂' => ?_
      have hk : ∀ b o, b ∉ [z, TO, i1, i2] → h'.get? b = some o → h₂'.get? b = some o := fun b o hb e => hk₂' b o hb (hk₂ b o hb e)
      have hT₂ : IsTup h₂' T #[vx, vy] := by
        obtain ⟨o, e, r⟩ := hIT
        exact ⟨o, hk₂' T o hTw e, r⟩
      refine assign_Tuple_tuple hh hT₂ rfl rfl fun h₅ he => ?_
      have he' : ∀ b o, h₂'.get? b = some o → h₅.get? b = some o := fun b o e => he b o (Nat.ne_of_lt (Heap.lt_size e)) e
      have hn₂ : h₂'.Ns H2.objs.size m' := hn'.at' fun o e => hk _ o hCw e
      refine assignInOrder_cons (wpAny_assign_Name (wpAny_storeName_local (lookup_relabel_local hx) (hn₂.at' fun o e => he' _ o e) (fun h₆ hn₆ hs₆ => ?_) (by simp [compEnvC, relabel, hkind])))
      refine assignInOrder_cons (wpAny_assign_Name (wpAny_storeName_local (lookup_relabel_local hx₂) hn₆ (fun h₃ hn₃ hs₃ => ?_) (by simp [compEnvC, relabel, hkind])))
      refine assignInOrder_nil ?_
      have old3 : ∀ b o, b ≠ H2.objs.size → h₂'.get? b = some o → h₃.get? b = some o := fun b o hb e => hs₃.extBut b o hb (hs₆.extBut b o hb (he' b o e))
      have hfC : ∀ b ∈ [z, TI, TO, i1, i2, l1, l2], b ≠ H2.objs.size := fun b hb => (below b (hfp b hb)).1
      have hfD : ∀ b ∈ [z, TI, TO, i1, i2, l1, l2], b ≠ s₂.heap.objs.size := fun b hb => (below b (hfp b hb)).2
      have hst₃ : ZSt z TI TO i1 i2 l1 l2 xs.toArray ys.toArray (i + 1) h₃ := W.frame _ _ _ hst₂ fun b hb o e => old3 b o (hfC b hb) e
      obtain ⟨oC, heC, hoC⟩ := ns_obj hn₃
      have F₃ : Fr h₀ L h₃ m := (((frW F' hk).keeps he').change hs₆ hCL hC₀).change hs₃ hCL hC₀
      have N₂ := nwW N' hk
      have hD₃ : h₃.get? s₂.heap.objs.size = some (lst vs) := old3 _ _ hDC (hk _ _ hDw hD')
      obtain ⟨hiA, hiB⟩ : i < as.length ∧ i < bs.length := ⟨hlt, hlen ▸ hlt⟩
      obtain ⟨ta, hta⟩ := hi1.get i as[i] (by simp [hiA])
      obtain ⟨tb, htb⟩ := hi2.get i bs[i] (by simp [hiB])
      have evx : vx = .int as[i] ta := by
        have : xs[i]? = some vx := by simpa using ex
        rw [hta] at this; exact (Option.some.inj this).symm
      have evy : vy = .int bs[i] tb := by
        have : ys[i]? = some vy := by simpa using ey
        rw [htb] at this; exact (Option.some.inj this).symm
      subst evx evy
      have hst₃' := hst₃
      obtain ⟨q1, q2, ⟨qa, qb, q3⟩, ⟨o4, q4, r4⟩, ⟨o5, q5, r5⟩, q6, q7⟩ := hst₃'
      have N₃ : News h₀ L h₃ ((H2.objs.size, oC) :: (s₂.heap.objs.size, lst vs) :: (z, _) :: (TI, _) :: (TO, _) :: (i1, o4) :: (i2, o5) :: news) := fun p hp => by
        rcases List.mem_cons.mp hp with rfl | hp
        · exact ⟨heC, hCL, hC₀⟩
        rcases List.mem_cons.mp hp with rfl | hp
        · exact ⟨hD₃, hDL, hD₀⟩
        rcases List.mem_cons.mp hp with rfl | hp
        · exact ⟨q1, Ne.symm (hz z (by simp)).1, (hz z (by simp)).2.1⟩
        rcases List.mem_cons.mp hp with rfl | hp
        · exact ⟨q2, Ne.symm (hz TI (by simp)).1, (hz TI (by simp)).2.1⟩
        rcases List.mem_cons.mp hp with rfl | hp
        · exact ⟨q3, Ne.symm (hz TO (by simp)).1, (hz TO (by simp)).2.1⟩
        rcases List.mem_cons.mp hp with rfl | hp
        · exact ⟨q4, Ne.symm (hz i1 (by simp)).1, (hz i1 (by simp)).2.1⟩
        rcases List.mem_cons.mp hp with rfl | hp
        · exact ⟨q5, Ne.symm (hz i2 (by simp)).1, (hz i2 (by simp)).2.1⟩
        · have y := N₂ p hp
          exact ⟨old3 _ _ (hNC p hp) y.1, y.2⟩
      refine wpAny_mono (turn as[i] bs[i] ta tb H2.objs.size oC s₂.heap.objs.size _ vs h₃ _ _ _ (List.getElem_mem _) (List.getElem_mem _) hoC (by simp [hxx]) (by simp) F₃ (fun p hp => by simp [hp]) N₃) (fun y s₄ h₄ => ?_) fun _ _ e => e
      obtain ⟨h₄, tk₄, t₄, rfl, rfl, F₄, N₄⟩ := h₄
      have zN : ∀ b o, (b, o) ∈ ((H2.objs.size, oC) :: (s₂.heap.objs.size, lst vs) :: (z, _) :: (TI, _) :: (TO, _) :: (i1, o4) :: (i2, o5) :: news : Led) → h₄.get? b = some o := fun b o hm => (N₄ _ hm).1
      have zC := zN H2.objs.size oC (by simp)
      have zD := zN s₂.heap.objs.size (lst vs) (by simp)
      have N₄' : News h₀ L h₄ news := fun p hp => N₄ p (by simp [hp])
      have l6 : h₄.IsList l1 xs.toArray ∧ h₄.IsList l2 ys.toArray := hlists h₄ F₄.keep N₄'
      have hst₄ : ZSt z TI TO i1 i2 l1 l2 xs.toArray ys.toArray (i + 1) h₄ :=
        ⟨zN _ _ (by simp), zN _ _ (by simp), ⟨qa, qb, zN _ _ (by simp)⟩, ⟨o4, zN _ _ (by simp), r4⟩, ⟨o5, zN _ _ (by simp), r5⟩, l6.1, l6.2⟩
      refine append_at (hsz := by show vs.toArray.size ≤ sizeLine; rw [List.size_toArray, hvl]; exact Nat.le_trans hi hsz) zD fun h₅ hs₅ hD₅ => ?_
      refine ⟨as.length + 1 - (i + 1), by omega, h₅, tk₄, i + 1, vs ++ [.int (g as[i] bs[i]) t₄], _, rfl, hlt, rfl, by rw [List.length_append, List.length_singleton, hvl], W.frame _ _ _ hst₄ fun b hb o e => hs₅.extBut b o (hfD b hb) e, F₄.change hs₅ hDL hD₀,
        (hoC.ns zC).sameBut hs₅ (Ne.symm hDC), hD₅.trans (congrArg some (lst_snoc vs _)), fun p hp => ⟨hs₅.extBut _ _ (hND p hp) (N₄' p hp).1, (N₄' p hp).2⟩, ?_⟩
      have hzi : (List.zipWith g as bs)[i]? = some (g as[i] bs[i]) := by
        rw [List.getElem?_zipWith]; simp [hiA, hiB]
      rw [List.take_add_one, hzi]
      exact IntsAre.append hI' (.cons _ _ .nil)
    · obtain rfl : i = as.length := Nat.le_antisymm hi (Nat.not_lt.mp hlt)
      refine W.done _ _ _ hst' fun h₂ tk₂ hk₂ => ?_
      have hzl : (List.zipWith g as bs).length = as.length := by rw [List.length_zipWith, hlen, Nat.min_self]
      rw [List.take_of_length_le (Nat.le_of_eq hzl)] at hI'
      refine hRR _ _ h₂ tk₂ _ vs (frW F' hk₂) (fun p hp => ?_) hND (hn'.at' fun o e => hk₂ _ o hCw e) hC₀ hD₀ hCL hDL (Ne.symm hDC) hNC hI'
      rcases List.mem_cons.mp hp with rfl | hp
      · exact ⟨hk₂ _ _ hDw hD', hDL, hD₀⟩
      · exact nwW N' hk₂ p hp
  exact codeAny_compStart_list (loop _ rfl) (W.self 0 _ _ _ hst₁ (loop _ rfl))

def ZFinA (h₀ : Heap) (L : Addr) (m : Str → Option Value) (s : Shared) (y : Str) (Q : Flow → Shared → Prop) (news : Led) (rs : List Int) : Prop :=
  ∀ D h tk vs, Fr h₀ L h (fun x => if x = y then some (.ref D) else m x) → News h₀ L h ((D, lst vs) :: news) → (∀ p ∈ news, p.1 ≠ D) → IntsAre vs rs → Q .next { s with heap := h, toks := tk }

/-- what the iterable of the comprehension must hand over -/
inductive ZSrc (prog : Program) (w : World) (A : Around) (h₀ : Heap) (L : Addr) (m : Str → Option Value) (env : Env) (elt : Expr) (x x₂ : Str) (scope : Scope) (cl : List (Str × Addr)) (Fin : Shared → Led → List Int → Prop) (xv : Value) (s₁ : Shared) : Prop
  | mk (z TI TO i1 i2 l1 l2 xs ys as bs g news) (a0 : xv = .ref z) (a1 : A.handled = none) (a2 : Fr h₀ L s₁.heap m) (a3 : News h₀ L s₁.heap news) (a4 : ZipApart z TI TO i1 i2 l1 l2) (a5 : ZSt z TI TO i1 i2 l1 l2 (List.toArray xs) (List.toArray ys) 0 s₁.heap) (a6 : IntsAre xs as) (a7 : IntsAre ys bs) (a8 : as.length = bs.length) (a9 : as.length ≤ sizeLine) (a10 : (∀ b ∈ [z, TI, TO, i1, i2], L ≠ b ∧ h₀.get? b = none ∧ ∀ p ∈ news, p.1 ≠ b)) (a11 : (∀ h, (∀ b o, h₀.get? b = some o → h.get? b = some o) → News h₀ L h news → h.IsList l1 (List.toArray xs) ∧ h.IsList l2 (List.toArray ys))) (a12 : (∀ a b ta tb C oC D₁ m₂ vs h tk zn (E' : Value → Shared → Prop), a ∈ as → b ∈ bs → NsObj oC m₂ → m₂ x = some (.int a ta) → m₂ x₂ = some (.int b tb) → Fr h₀ L h m → Sub news zn → News h₀ L h ((C, oC) :: (D₁, lst vs) :: zn) →
      wpAny (model prog w) A (eval elt (compEnvC scope cl C env)) (ZEnd h₀ L m { s₁ with heap := h, toks := tk } ((C, oC) :: (D₁, lst vs) :: zn) (g a b)) E' { s₁ with heap := h, toks := tk })) (a13 : Fin s₁ news (List.zipWith g as bs))

/-- zip of two lists of the ledger -/
theorem zsrc_zip {elt : Expr} {x x₂ : Str} {scope : Scope} {cl : List (Str × Addr)} {Fin : Shared → Led → List Int → Prop} {l1 l2 : Addr} {xs ys : List Value} {as bs : List Int} (g : Int → Int → Int) {news : Led}
    (hh : A.handled = none) (F : Fr h₀ L s.heap m) (N : News h₀ L s.heap news) {k1 k2 : Nat} (m1 : (l1, W.listOf (List.toArray xs) k1) ∈ news) (m2 : (l2, W.listOf (List.toArray ys) k2) ∈ news) (hi1 : IntsAre xs as) (hi2 : IntsAre ys bs) (hlen : as.length = bs.length) (hsz : as.length ≤ sizeLine)
    (turn : ∀ a b ta tb C oC D₁ m₂ vs h tk zn (E' : Value → Shared → Prop), a ∈ as → b ∈ bs → NsObj oC m₂ → m₂ x = some (.int a ta) → m₂ x₂ = some (.int b tb) → Fr h₀ L h m → Sub news zn → News h₀ L h ((C, oC) :: (D₁, lst vs) :: zn) →
      wpAny (model prog w) A (eval elt (compEnvC scope cl C env)) (ZEnd h₀ L m { s with heap := h, toks := tk } ((C, oC) :: (D₁, lst vs) :: zn) (g a b)) E' { s with heap := h, toks := tk })
    (fin : ∀ h', Fin { s with heap := h' } news (List.zipWith g as bs)) :
    wpAny (model prog w) A (call (.type "zip") [.ref l1, .ref l2]) (ZSrc prog w A h₀ L m env elt x x₂ scope cl Fin) E s := by
  have hls1 : s.heap.IsList l1 xs.toArray := News.isList N m1
  have hls2 : s.heap.IsList l2 ys.toArray := News.isList N m2
  obtain ⟨ol1, hol1, _⟩ := id hls1
  obtain ⟨ol2, hol2, _⟩ := id hls2
  have a1 := Heap.lt_size hol1
  have a2 := Heap.lt_size hol2
  have hLs : L < s.heap.objs.size := F.ns.lt
  refine call_zip_2 hls1 hls2 fun h' hz hTI hTO hit1 hit2 hsz' hk => ?_
  have F' : Fr h₀ L h' m := ⟨F.ns.keeps hk, fun b o e => hk b o (F.keep b o e), F.above⟩
  have N' : News h₀ L h' news := fun p hp => ⟨hk _ _ (N p hp).1, (N p hp).2⟩
  refine ⟨s.heap.objs.size + 4, s.heap.objs.size + 2, s.heap.objs.size + 3, s.heap.objs.size, s.heap.objs.size + 1, l1, l2, xs, ys, as, bs, g, news, rfl, hh, F', N', zipApart_new a1 a2, ⟨hz, hTI, ⟨_, _, hTO⟩, hit1, hit2, hls1.at fun o e => hk l1 o e, hls2.at fun o e => hk l2 o e⟩, hi1, hi2, hlen, hsz, ?_, ?_, turn, fin h'⟩
  · have up : ∀ k, L ≠ s.heap.objs.size + k ∧ h₀.get? (s.heap.objs.size + k) = none ∧ ∀ p ∈ news, p.1 ≠ s.heap.objs.size + k := fun k =>
      ⟨fun e => Nat.ne_of_lt (Nat.lt_of_lt_of_le hLs (Nat.le_add_right _ k)) e, Heap.get?_none_of_le (Nat.le_trans F.above (Nat.le_trans (Nat.le_of_lt hLs) (Nat.le_add_right _ k))),
        fun p hp e => Nat.ne_of_lt (Nat.lt_of_lt_of_le (Heap.lt_size (N p hp).1) (Nat.le_add_right _ k)) e⟩
    intro b hb
    simp only [List.mem_cons, List.not_mem_nil, or_false] at hb
    rcases hb with rfl | rfl | rfl | rfl | rfl
    · exact up 4
    · exact up 2
    · exact up 3
    · exact up 0
    · exact up 1
  · exact fun h _ N₁ => ⟨News.isList N₁ m1, News.isList N₁ m2⟩

theorem ZEnd.intro {s₁ : Shared} {led nw : Led} {r r' : Int} {t : Tok} {h' : Heap} {tk' : Nat} (e : r' = r) (F : Fr h₀ L h' m) (N : News h₀ L h' nw) (S : Sub led nw) : ZEnd h₀ L m s₁ led r (.int r' t) { s₁ with heap := h', toks := tk' } :=
  ⟨h', tk', t, rfl, by rw [e], F, fun p hp => N p (S p hp)⟩
theorem Assign_ListComp_Z {elt iter : Expr} {x x₂ y : Str} {px px₂ tp py : Pos} {tk0} {scope : Scope} {cl : List (Str × Addr)} {pos spos : Pos} {Q : Flow → Shared → Prop} (_F₀ : Fr h₀ L s.heap m) (hLe : env.locals = L)
    (hsw : swapsWith (.ListComp elt [⟨.Tuple [.Name x px, .Name x₂ px₂] tk0 tp, iter, [], 0⟩] scope pos) (some (.Name y py)) spos.line env = pure true)
    (hclos : closureFor scope env = pure cl) (hcell : ∀ z ∈ scope.names, z.2 ≠ .cell) (hkind : scope.kind = .function)
    (hnames : ∀ z ∈ scope.names, z.2 = .local → scope.names.lookup z.1 = some .local) (hx : scope.names.lookup x = some .local) (hx₂ : scope.names.lookup x₂ = some .local) (hxx : x ≠ x₂)
    (hy : env.kindOf y = some .local) (hp : (env.scope.kind == .class || (env.scope.kind == .module && env.locals != env.globals)) = false)
    (h : wpAny (model prog w) A (eval iter env) (ZSrc prog w A h₀ L m env elt x x₂ scope cl (fun s₂ => ZFinA h₀ L m s₂ y Q)) E s)
    (hs : ∀ x, foldedSetIterable iter env x = pure x := by intro _; rfl) :
    wpAny (model prog w) A (exec (.Assign [.Name y py] (.ListComp elt [⟨.Tuple [.Name x px, .Name x₂ px₂] tk0 tp, iter, [], 0⟩] scope pos) spos) env) Q E s := by
  subst hLe
  rw [exec_Assign_Name_used _ _ _ _ hsw]
  refine wpAny_bind (wpAny_standAt (wpAny_bind ?_))
  show wpAny _ A (do let _ ← comprehension (.ListComp elt [⟨.Tuple [.Name x px, .Name x₂ px₂] tk0 tp, iter, [], 0⟩] scope pos) scope env _ (newList []) false (eval iter env) (some (assign (.Name y py) env))) _ _ s
  refine wpAny_bind (wpAny_mono (wpAny_comprehension_free (use := some (assign (.Name y py) env)) (Q := fun _ s' => Q .next s') rfl hs hclos hkind hnames
    (wpAny_mono h (fun xv s₁ h₁ => ?_) fun _ _ e => e)) (fun _ s' hq => wpAny_pure (wpAny_pure hq)) fun _ _ e => e)
  obtain ⟨z, TI, TO, i1, i2, l1, l2, xs, ys, as, bs, g, news, rfl, hh, F, N, D, hst, hi1, hi2, hlen, hsz, hz, hlists, turn, fin⟩ := h₁
  have W := WalksT.zip2 (prog := prog) (w := w) hh z TI TO i1 i2 l1 l2 D xs.toArray ys.toArray
  refine W.self 0 _ _ _ hst ?_
  refine blockZ g hh D hst hi1 hi2 hlen hsz hcell hkind hx hx₂ hxx F N hz hlists turn ?_
  intro D₁ C h' tk m' vs F' N' o1 hn hC₀ hD₀ hCL hDL hCD offC hI
  show wpAny _ A (assign (.Name y py) env (.ref D₁)) _ _ _
  refine wpAny_assign_Name (wpAny_storeName_local hy F'.ns (fun h₂ hn₂ hs₂ => ?_) hp)
  have hL₀ : h₀.get? env.locals = none := Heap.get?_none_of_le F'.above
  have F₂ : Fr h₀ env.locals h₂ (fun z => if z = y then some (.ref D₁) else m z) := ⟨hn₂, fun b o e => hs₂.extBut b o (fun q => by rw [q, hL₀] at e; cases e) (F'.keep b o e), F'.above⟩
  refine ⟨m', hn.sameBut hs₂ hCL, fun h'' hs'' => fin D₁ h'' _ vs (F₂.change hs'' hCL hC₀) (fun p hp => ?_) o1 hI⟩
  have z : h₂.get? p.1 = some p.2 := hs₂.extBut _ _ (N' p hp).2.1 (N' p hp).1
  refine ⟨hs''.extBut _ _ ?_ z, (N' p hp).2⟩
  rcases List.mem_cons.mp hp with rfl | hp
  · exact Ne.symm hCD
  · exact offC p hp
end
end Mine02
end
section
namespace Mine02
/-- a contract of a def that reads the script -/
def SpecS (w : World) (mean : ExcName → Option Value) (mg mb : Str → Option Value) (sl : Addr) (svs : List Value) (f : Addr) (args : List Value) (need : Nat) (news : Led) (Out : Value → Led → Prop) : Prop :=
  ∀ (dp un : Nat) (gd : Option (List Code)) (cn : Str) (cs : Scope) (a : Addr) (ccd : Value) (cl : List (Str × Addr)) (outer : List Env) (A₀ : Around) (base h₀ : Heap) (L : Addr) (m : Str → Option Value) (s : Shared) (Q E : Value → Shared → Prop),
    Below A₀ base outer h₀ → base.IsList sl svs.toArray → Fr h₀ L s.heap m → (hd02.heap_39 w.params).In h₀ → News h₀ L s.heap news → Top Mine02.view (looseW Mine02.view []) mean mg mb h₀ → cs.kind = .function →
    dp + need < recursionLimit → un + 8 * need < cLine →
    (∀ r nw h' tk', Fr h₀ L h' m → News h₀ L h' nw → Sub news nw → Out r nw → Q r { s with heap := h', toks := tk' }) →
    codeAny (model PySem.Challenge.rw_xy0002_02.row.toRowW.prog w) (ktrTop dp un gd cn cs L a ccd cl outer) (.call (.ref f) ⟨args, []⟩) (fun r s' => match r with | .ok (.ret v) => Q v s' | .ok _ => False | .error e => E e s') s
theorem SpecS.use {w : World} {mean : ExcName → Option Value} {mg mb : Str → Option Value} {sl : Addr} {svs : List Value} {f : Addr} {args : List Value} {need : Nat} {news : Led} {Out : Value → Led → Prop}
    (h : SpecS w mean mg mb sl svs f args need news Out)
    {dp un : Nat} {gd : Option (List Code)} {cn : Str} {cs : Scope} {a : Addr} {ccd : Value} {cl : List (Str × Addr)} {outer : List Env} {A₀ : Around} {base h₀ : Heap} {L : Addr} {m : Str → Option Value} {s : Shared} {Q E : Value → Shared → Prop}
    (B : Below A₀ base outer h₀) (hS : base.IsList sl svs.toArray) (F : Fr h₀ L s.heap m) (X : (hd02.heap_39 w.params).In h₀) (N : News h₀ L s.heap news) (T : Top Mine02.view (looseW Mine02.view []) mean mg mb h₀) (hk : cs.kind = .function)
    (hd : dp + need < recursionLimit) (hu : un + 8 * need < cLine)
    (ret : ∀ r nw h' tk', Fr h₀ L h' m → News h₀ L h' nw → Sub news nw → Out r nw → Q r { s with heap := h', toks := tk' }) :
    codeAny (model PySem.Challenge.rw_xy0002_02.row.toRowW.prog w) (ktrTop dp un gd cn cs L a ccd cl outer) (.call (.ref f) ⟨args, []⟩) (fun r s' => match r with | .ok (.ret v) => Q v s' | .ok _ => False | .error e => E e s') s :=
  h dp un gd cn cs a ccd cl outer A₀ base h₀ L m s Q E B hS F X N T hk hd hu ret
inductive ListNew (news nw : Led) (v : Value) (ns : List Int) : Prop
  | mk (l vs k) (a0 : v = .ref l) (a1 : (l, W.listOf (List.toArray vs) k) ∈ nw) (a2 : IntsAre vs ns) (a3 : ∀ p ∈ news, p.1 ≠ l)
theorem ListNew.elim {news nw : Led} {v : Value} {ns : List Int} {C : Prop} (h : ListNew news nw v ns) (k : ∀ l vs k, v = .ref l → (l, W.listOf (List.toArray vs) k) ∈ nw → IntsAre vs ns → (∀ p ∈ news, p.1 ≠ l) → C) : C :=
  let ⟨l, vs, kk, e, m, i, n⟩ := h; k l vs kk e m i n
theorem bits_iff {x : Int} {B : Nat} : Builtin.Int.intBits x ≤ B ↔ x.natAbs < 2 ^ B := by
  unfold Builtin.Int.intBits
  by_cases h : x = 0
  · subst h; simp; exact Nat.two_pow_pos B
  · have hn : x.natAbs ≠ 0 := by omega
    simp only [beq_iff_eq, h, if_false]
    rw [← Nat.log2_lt hn]
    omega
theorem bits_sub {x y : Int} {a b c : Nat} (hx : Builtin.Int.intBits x ≤ a) (hy : Builtin.Int.intBits y ≤ b) (ha : a + 1 ≤ c) (hb : b + 1 ≤ c) : Builtin.Int.intBits (x - y) ≤ c := by
  rw [bits_iff] at *
  have h1 : 2 ^ (a + 1) ≤ 2 ^ c := Nat.pow_le_pow_right (by decide) ha
  have h2 : 2 ^ (b + 1) ≤ 2 ^ c := Nat.pow_le_pow_right (by decide) hb
  rw [Nat.pow_succ] at h1 h2
  generalize (2 : Nat) ^ a = A at *
  generalize (2 : Nat) ^ b = B at *
  generalize (2 : Nat) ^ c = C at *
  omega
theorem map1 {x s : Str} {v u : Value} {m₁ m₀ : Str → Option Value} (h : m₁ s = some v) : (fun y => if y = x then some u else if [s].contains y then m₁ y else m₀ y) = fun y => if y = x then some u else if y = s then some v else m₀ y := by
  funext y
  by_cases h1 : y = x
  · simp [h1]
  · by_cases h2 : y = s
    · subst h2; simp [h1, h]
    · simp [h1, h2]
theorem bits_neg (x : Int) : Builtin.Int.intBits (-x) = Builtin.Int.intBits x := by
  unfold Builtin.Int.intBits
  by_cases h : x = 0
  · subst h; rfl
  · have h' : ¬ (-x = 0) := by omega
    simp [h]
theorem bits_getD {ns : List Int} {B : Nat} (h : ∀ x ∈ ns, Builtin.Int.intBits x ≤ B) (k : Nat) : Builtin.Int.intBits (ns.getD k 0) ≤ B := by
  rw [List.getD_eq_getElem?_getD]
  cases e : ns[k]? with
  | none => exact Nat.zero_le _
  | some x => exact h x (List.mem_of_getElem? e)
theorem bits_small {x : Int} (h1 : -(2 ^ 64) < x) (h2 : x < 2 ^ 64) : Builtin.Int.intBits x ≤ 2 ^ 20 := Nat.le_trans (intBits_le_64 h1 h2) (by decide)
theorem newsDown {h₀ h : Heap} {L : Addr} {a b : Led} (N : News h₀ L h b) (S : Sub a b) : News h₀ L h a := fun p hp => N p (S p hp)
theorem newsCons {h₀ h : Heap} {L : Addr} {a b : Led} {p : Addr × Obj} (N : News h₀ L h b) (m : p ∈ b) (S : Sub a b) : News h₀ L h (p :: a) := fun q hq => by
  rcases List.mem_cons.mp hq with rfl | hq
  · exact N _ m
  · exact N q (S q hq)
theorem menu_is (j : Nat) : List.getD ([1, -1, 1, 0] : List Int) j 0 = 1 ∨ List.getD ([1, -1, 1, 0] : List Int) j 0 = -1 ∨ List.getD ([1, -1, 1, 0] : List Int) j 0 = 0 := by
  rcases j with _ | _ | _ | _ | j
  · exact .inl rfl
  · exact .inr (.inl rfl)
  · exact .inl rfl
  · exact .inr (.inr rfl)
  · refine .inr (.inr ?_)
    rw [List.getD_eq_getElem?_getD, List.getElem?_eq_none (by simp)]
    rfl
theorem menu_bits (j : Nat) : Builtin.Int.intBits (List.getD ([1, -1, 1, 0] : List Int) j 0) ≤ 64 := by
  rcases menu_is j with h | h | h <;> rw [h] <;> decide
theorem menu_mul {x : Int} {B : Nat} (h : Builtin.Int.intBits x ≤ B) (j : Nat) : Builtin.Int.intBits (x * List.getD ([1, -1, 1, 0] : List Int) j 0) ≤ B := by
  rcases menu_is j with e | e | e <;> rw [e]
  · rwa [Int.mul_one]
  · rw [show x * -1 = -x by omega, bits_neg]; exact h
  · rw [Int.mul_zero]; exact Nat.zero_le _
theorem bits_set {ns : List Int} {B : Nat} (h : ∀ x ∈ ns, Builtin.Int.intBits x ≤ B) (k : Nat) {v : Int} (hv : Builtin.Int.intBits v ≤ B) : ∀ x ∈ ns.set k v, Builtin.Int.intBits x ≤ B := fun x hx => by
  rcases List.mem_or_eq_of_mem_set hx with hx | rfl
  · exact h x hx
  · exact hv
theorem mapR {x : Str} {u : Value} {m₁ m₂ : Str → Option Value} (h : ∀ z, z ≠ x → m₁ z = m₂ z) : (fun y => if y = x then some u else m₁ y) = fun y => if y = x then some u else m₂ y := by
  funext y
  by_cases h1 : y = x
  · simp [h1]
  · simp [h1, h y h1]
theorem ints_zeros (t : Tok) : ∀ n : Nat, IntsAre (List.flatten (List.replicate n [Value.int 0 t])) (List.replicate n 0)
  | 0 => .nil
  | n + 1 => by
    rw [List.replicate_succ, List.replicate_succ, List.flatten_cons]
    exact .cons _ _ (ints_zeros t n)
end Mine02
end
section
namespace Mine02
def lawStmt? (p : Program) (i : Nat) : Option Stmt := match p.main.body.getLast? with
  | some (.FunctionDef _ _ body _ _ _ _ _ _ _) => body[i]?
  | _ => none
def lawBody? (p : Program) : Option (List Stmt) := match p.main.body.getLast? with
  | some (.FunctionDef _ _ body _ _ _ _ _ _ _) => some body
  | _ => none
def lawScope? (p : Program) : Option Scope := match p.main.body.getLast? with
  | some (.FunctionDef _ _ _ _ _ _ scope _ _ _) => some scope
  | _ => none
/-- a statement that leaves all as it was -/
def Stays (h₀ : Heap) (L : Addr) (m : Str → Option Value) (news : Led) (s : Shared) (f : Flow) (s' : Shared) : Prop :=
  f = .next ∧ ∃ h' tk', s' = { s with heap := h', toks := tk' } ∧ Fr h₀ L h' m ∧ News h₀ L h' news
theorem step_stays {M : Model} {A : Around} {E : Value → Shared → Prop} {s : Shared} {env : Env} {st : Stmt} {rest : List Stmt} {Q : Flow → Shared → Prop} {h₀ : Heap} {L : Addr} {m : Str → Option Value} {news : Led}
    (h1 : wpAny M A (exec st env) (Stays h₀ L m news s) E s) (h2 : ∀ h' tk', Fr h₀ L h' m → News h₀ L h' news → wpAny M A (execs rest env) Q E { s with heap := h', toks := tk' }) : wpAny M A (execs (st :: rest) env) Q E s := by
  refine wpAny_execs_cons (wpAny_mono h1 (fun f s' h => ?_) fun _ _ e => e)
  obtain ⟨rfl, h', tk', rfl, F, N⟩ := h
  exact h2 h' tk' F N
/-- a statement that binds one name -/
def SetsName (h₀ : Heap) (L : Addr) (m : Str → Option Value) (news : Led) (s : Shared) (y : Str) (P : Value → Led → Prop) (f : Flow) (s' : Shared) : Prop :=
  f = .next ∧ ∃ h' tk' v nw, s' = { s with heap := h', toks := tk' } ∧ Fr h₀ L h' (fun z => if z = y then some v else m z) ∧ News h₀ L h' nw ∧ Sub news nw ∧ P v nw
theorem SetsName.intro {h₀ h' : Heap} {L : Addr} {m : Str → Option Value} {news nw : Led} {s : Shared} {tk' : Nat} {y : Str} {v : Value} {P : Value → Led → Prop} (F : Fr h₀ L h' (fun z => if z = y then some v else m z)) (N : News h₀ L h' nw) (S : Sub news nw) (hP : P v nw) : SetsName h₀ L m news s y P .next { s with heap := h', toks := tk' } :=
  ⟨rfl, h', tk', v, nw, rfl, F, N, S, hP⟩
theorem step_sets {M : Model} {A : Around} {E : Value → Shared → Prop} {s : Shared} {env : Env} {st : Stmt} {rest : List Stmt} {Q : Flow → Shared → Prop} {h₀ : Heap} {L : Addr} {m : Str → Option Value} {news : Led} {y : Str} {P : Value → Led → Prop}
    (h1 : wpAny M A (exec st env) (SetsName h₀ L m news s y P) E s) (h2 : ∀ h' tk' v nw, Fr h₀ L h' (fun z => if z = y then some v else m z) → News h₀ L h' nw → Sub news nw → P v nw → wpAny M A (execs rest env) Q E { s with heap := h', toks := tk' }) : wpAny M A (execs (st :: rest) env) Q E s := by
  refine wpAny_execs_cons (wpAny_mono h1 (fun f s' h => ?_) fun _ _ e => e)
  obtain ⟨rfl, h', tk', v, nw, rfl, F, N, S, hP⟩ := h
  exact h2 h' tk' v nw F N S hP
theorem Stays.intro {h₀ h' : Heap} {L : Addr} {m : Str → Option Value} {news nw : Led} {s : Shared} {tk' : Nat} (F : Fr h₀ L h' m) (N : News h₀ L h' nw) (S : Sub news nw) : Stays h₀ L m news s .next { s with heap := h', toks := tk' } :=
  ⟨rfl, h', tk', rfl, F, fun p hp => N p (S p hp)⟩
theorem nat_fmod (y : Int) (t : Tok) (k : Nat) (hk : 0 < k) : ∃ (x : Nat) (t' : Tok), Value.int (Int.fmod y k) t = .int (x : Int) t' ∧ x < k := by
  have h1 := fmod_lo y (show (0:Int) < (k : Int) by omega)
  have h2 := fmod_hi y (show (0:Int) < (k : Int) by omega)
  exact ⟨(Int.fmod y k).toNat, t, by rw [Int.toNat_of_nonneg h1], by omega⟩
/-- the last statement gives True -/
def Ends (h₀ : Heap) (L : Addr) (m : Str → Option Value) (s : Shared) (f : Flow) (s' : Shared) : Prop :=
  f = .ret (.bool true) ∧ ∃ h' tk', s' = { s with heap := h', toks := tk' } ∧ Fr h₀ L h' m
theorem Ends.intro {h₀ h' : Heap} {L : Addr} {m : Str → Option Value} {s : Shared} {tk' : Nat} {b : Bool} (F : Fr h₀ L h' m) (hb : b = true) : Ends h₀ L m s (.ret (.bool b)) { s with heap := h', toks := tk' } :=
  ⟨by rw [hb], h', tk', rfl, F⟩
end Mine02
end
section
namespace Mine02
/-- the end of a turn of a comprehension that makes things and keeps them -/
def CEnd (h₀ : Heap) (L : Addr) (m : Str → Option Value) (s₁ : Shared) (I C D : Addr) (nw all : Led) (rest : Value → Led → Prop) (y : Value) (s₂ : Shared) : Prop :=
  ∃ h' tk' nw' own, s₂ = { s₁ with heap := h', toks := tk' } ∧ Fr h₀ L h' m ∧ News h₀ L h' nw' ∧ Sub all nw' ∧ Sub own nw' ∧ (∀ p ∈ own, p.1 ≠ I ∧ p.1 ≠ C ∧ p.1 ≠ D) ∧ rest y (own ++ nw)
theorem CEnd.intro {h₀ : Heap} {L : Addr} {m : Str → Option Value} {s₁ : Shared} {I C D : Addr} {nw all : Led} {rest : Value → Led → Prop} {y : Value} {h' : Heap} {tk' : Nat} {nw' : Led} (F : Fr h₀ L h' m) (N : News h₀ L h' nw') (hs : Sub all nw') (own : Led) (ho : Sub own nw')
    (off : ∀ p ∈ own, p.1 ≠ I ∧ p.1 ≠ C ∧ p.1 ≠ D) (r : rest y (own ++ nw)) : CEnd h₀ L m s₁ I C D nw all rest y { s₁ with heap := h', toks := tk' } := ⟨h', tk', nw', own, rfl, F, N, hs, ho, off, r⟩
theorem off1_mem {D : Addr} : ∀ {l : Led}, LCg.Off1 D l → ∀ p ∈ l, p.1 ≠ D
  | [], _, _, h => nomatch h
  | _ :: _, x, p, h => by
    rcases List.mem_cons.mp h with rfl | h
    · exact x.1
    · exact off1_mem x.2 p h
theorem off1_sub {D : Addr} {a b : Led} (h : LCg.Off1 D b) (S : Sub a b) : LCg.Off1 D a := by
  have h1 := off1_mem h
  have : ∀ p ∈ a, p.1 ≠ D := fun p hp => h1 p (S p hp)
  clear S h h1
  induction a with
  | nil => trivial
  | cons q r ih => exact ⟨this _ List.mem_cons_self, ih fun p hp => this p (List.mem_cons_of_mem _ hp)⟩
theorem ne_cell {h₀ : Heap} {L : Addr} {h : Heap} {news : Led} (N : News h₀ L h news) {a b : Addr} {o o' : Obj} {v : Option Value} {vs : Array Value} {k : Nat} (ha : (a, o) ∈ news) (hb : (b, o') ∈ news) (hd : o.data = .cell v) (ho : o' = W.listOf vs k) : @Ne Nat b a := by
  rintro rfl
  have h1 := (N _ ha).1
  have h2 := (N _ hb).1
  have e : o = o' := Option.some.inj (h1.symm.trans h2)
  rw [e, ho] at hd
  cases hd
/-- one list and three of its rows ahead of a written ledger -/
theorem news_rows {h₀ : Heap} {L : Addr} {h : Heap} {news nw : Led} {p p0 p1 p2 : Addr × Obj} (N : News h₀ L h (p :: nw)) (m0 : p0 ∈ nw) (m1 : p1 ∈ nw) (m2 : p2 ∈ nw) (S : Sub news nw) : News h₀ L h (p :: p0 :: p1 :: p2 :: news) := fun q hq => by
  rcases List.mem_cons.mp hq with rfl | hq
  · exact N _ List.mem_cons_self
  rcases List.mem_cons.mp hq with rfl | hq
  · exact N _ (List.mem_cons_of_mem _ m0)
  rcases List.mem_cons.mp hq with rfl | hq
  · exact N _ (List.mem_cons_of_mem _ m1)
  rcases List.mem_cons.mp hq with rfl | hq
  · exact N _ (List.mem_cons_of_mem _ m2)
  exact N _ (List.mem_cons_of_mem _ (S _ hq))
theorem row_of3 {news : Led} {n : Nat} {l0 l1 l2 : Addr} {vs0 vs1 vs2 : List Value} {k0 k1 k2 : Nat} {r0 r1 r2 : List Int} (hm0 : (l0, W.listOf vs0.toArray k0) ∈ news) (hm1 : (l1, W.listOf vs1.toArray k1) ∈ news) (hm2 : (l2, W.listOf vs2.toArray k2) ∈ news) (hi0 : IntsAre vs0 r0) (hi1 : IntsAre vs1 r1) (hi2 : IntsAre vs2 r2)
    (hl0 : r0.length = n) (hl1 : r1.length = n) (hl2 : r2.length = n) {i : Nat} {v : Value} (hv : ([Value.ref l0, Value.ref l1, Value.ref l2] : List Value)[i]? = some v) :
    ∃ l vs k r, v = .ref l ∧ (l, W.listOf (List.toArray vs) k) ∈ news ∧ IntsAre vs r ∧ r.length = n ∧ ([r0, r1, r2] : List (List Int))[i]? = some r := by
  match i, hv with
  | 0, hv => exact ⟨l0, vs0, k0, r0, (Option.some.inj hv).symm, hm0, hi0, hl0, rfl⟩
  | 1, hv => exact ⟨l1, vs1, k1, r1, (Option.some.inj hv).symm, hm1, hi1, hl1, rfl⟩
  | 2, hv => exact ⟨l2, vs2, k2, r2, (Option.some.inj hv).symm, hm2, hi2, hl2, rfl⟩
  | _ + 3, hv => cases hv
theorem ref_of {o : Obj} {x : Addr} (_ : o.data = .cell (some (.ref x))) : ∃ y : Addr, y = x := ⟨x, rfl⟩
theorem q_of {h₀ h : Heap} {L : Addr} {x : Int} {t : Tok} {m : Str → Option Value} (_ : Fr h₀ L h (fun y => if y = Str.ofString "q" then some (.int (2 + Int.fmod x 9999) t) else m y)) : ∃ q, 2 + Int.fmod x 9999 = q ∧ 2 ≤ q ∧ q ≤ 10000 := by
  have h1 := fmod_lo x (show (0 : Int) < 9999 by omega)
  have h2 := fmod_hi x (show (0 : Int) < 9999 by omega)
  exact ⟨_, rfl, by omega, by omega⟩
theorem cell_neL {o o' : Obj} {v : Option Value} {vs : Array Value} {k : Nat} (hd : o.data = .cell v) (ho : o' = W.listOf vs k) : o' ≠ o := by
  rintro rfl
  rw [ho] at hd
  cases hd
theorem cell_neC {o o' : Obj} {v : Value} (hd : o.data = .cell none) (ho : o'.data = .cell (some v)) : o' ≠ o := by
  rintro rfl
  rw [ho] at hd
  cases hd
theorem cell_neP {o o' : Obj} {v : Option Value} (hd : o.data = .cell v) (ho : o'.data = .plain) : o' ≠ o := by
  rintro rfl
  rw [ho] at hd
  cases hd
theorem cell_neD {o o' : Obj} {v : Option Value} {es : List DictEntry} {k : Nat} (hd : o.data = .cell v) (ho : o' = W.dictOf es k) : o' ≠ o := by
  rintro rfl
  rw [ho] at hd
  cases hd
theorem cell_neS {o : Obj} {v : Option Value} {ys : List Value} (hd : o.data = .cell v) : LCg.lst ys ≠ o := by
  rintro rfl
  cases hd
theorem RingIn.rest {nw rest : Led} {o : Obj} {cv : Option Value} {rg : Addr} {q : Int} {n : Nat} (h : RingIn nw rg q n) (hd : o.data = .cell cv) (hin : ∀ a o', (a, o') ∈ nw → o' ≠ o → (a, o') ∈ rest) : RingIn rest rg q n := by
  refine RingIn.elim h ?_
  clear h
  intro d h1 k1 h2 k2 tq tn c m1 m2
  exact ⟨d, h1, k1, h2, k2, tq, tn, c, hin _ _ m1 (cell_neP hd rfl), hin _ _ m2 (cell_neD hd rfl)⟩
theorem PolyIn.rest {nw rest : Led} {o : Obj} {cv : Option Value} {v : Value} {rg : Addr} {cs : List Int} (h : PolyIn nw v rg cs) (hd : o.data = .cell cv) (hin : ∀ a o', (a, o') ∈ nw → o' ≠ o → (a, o') ∈ rest) : PolyIn rest v rg cs := by
  obtain ⟨f, d, h1, k1, h2, k2, l, vs, k, c, e, m1, m2, m3, i⟩ := h
  exact ⟨f, d, h1, k1, h2, k2, l, vs, k, c, e, hin _ _ m1 (cell_neP hd rfl), hin _ _ m2 (cell_neD hd rfl), hin _ _ m3 (cell_neL hd rfl), i⟩
theorem CEnd.intro3 {h₀ : Heap} {L : Addr} {m : Str → Option Value} {s₁ : Shared} {I C D : Addr} {nw all : Led} {rest : Value → Led → Prop} {y : Value} {h' : Heap} {tk' : Nat} {nw' : Led} {p1 p2 p3 : Addr × Obj} (F : Fr h₀ L h' m) (N : News h₀ L h' nw') (hs : Sub all nw') (m1 : p1 ∈ nw') (m2 : p2 ∈ nw') (m3 : p3 ∈ nw')
    (o1 : p1.1 ≠ I ∧ p1.1 ≠ C ∧ p1.1 ≠ D) (o2 : p2.1 ≠ I ∧ p2.1 ≠ C ∧ p2.1 ≠ D) (o3 : p3.1 ≠ I ∧ p3.1 ≠ C ∧ p3.1 ≠ D) (r : rest y ([p1, p2, p3] ++ nw)) : CEnd h₀ L m s₁ I C D nw all rest y { s₁ with heap := h', toks := tk' } :=
  CEnd.intro F N hs [p1, p2, p3] (fun p hp => by simp only [List.mem_cons, List.not_mem_nil, or_false] at hp; rcases hp with rfl | rfl | rfl <;> assumption)
    (fun p hp => by simp only [List.mem_cons, List.not_mem_nil, or_false] at hp; rcases hp with rfl | rfl | rfl <;> assumption) r
theorem off_of4 {l I C D f : Addr} {ol oI oC oD : Obj} {nw : Led} (h : ∀ p ∈ (l, ol) :: (I, oI) :: (C, oC) :: (D, oD) :: nw, p.1 ≠ f) : f ≠ I ∧ f ≠ C ∧ f ≠ D :=
  ⟨Ne.symm (h (I, oI) (by simp)), Ne.symm (h (C, oC) (by simp)), Ne.symm (h (D, oD) (by simp))⟩
section
variable {prog : Program} {w : World} {A : Around} {h₀ : Heap} {L : Addr} {m : Str → Option Value} {env : Env} {elt : Expr} {x : Str} {scope : Scope} {cl : List (Str × Addr)} {s : Shared} {S : List (Addr × Obj) → Prop} {P : Nat → Value → Prop} {Fin : List Value → List (Addr × Obj) → Prop}
theorem comp_new {n : Nat} {news : Led} (R : Nat → List Value → Led → Prop) (hS : S news) (hmono : ∀ a b, S a → Sub a b → S b) (h0 : R 0 [] news)
    (turn : ∀ i v I oI C oC D m₂ ys nw h tk (E' : Value → Shared → Prop), i < n → P i v → R i ys nw → Sub news nw → LCg.NsObj oC m₂ → m₂ x = some v → Fr h₀ L h m → News h₀ L h ((I, oI) :: (C, oC) :: (D, LCg.lst ys) :: nw) → LCg.Off3 I C D nw → ((@Ne Nat I C) ∧ (@Ne Nat I D) ∧ (@Ne Nat C D)) →
      wpAny (model prog w) A (eval elt (compEnvC scope cl C env)) (CEnd h₀ L m { s with heap := h, toks := tk } I C D nw ((I, oI) :: (C, oC) :: (D, LCg.lst ys) :: nw) (fun y nw' => R (i + 1) (ys ++ [y]) nw')) E' { s with heap := h, toks := tk })
    (fin : ∀ ys nw, R n ys nw → Sub news nw → Fin ys nw) : LCg.CompRest prog w A h₀ L m env elt x scope cl s S P Fin n 0 [] news := by
  have key : ∀ (j i : Nat) (ys : List Value) (nw : Led), i + j = n → R i ys nw → Sub news nw → LCg.CompRest prog w A h₀ L m env elt x scope cl s S P Fin j i ys nw := by
    intro j
    induction j with
    | zero =>
      intro i ys nw hi hR hs
      have e : i = n := by omega
      subst e
      exact LCg.CompRest.zero (fin ys nw hR hs)
    | succ j ih =>
      intro i ys nw hi hR hs
      refine LCg.CompRest.succ ?_
      intro v I oI C oC D m₂ h tk E' hv hC hx F N off ne
      refine wpAny_mono (turn i v I oI C oC D m₂ ys nw h tk E' (by omega) hv hR hs hC hx F N off ne) (fun y s₂ hq => ?_) fun _ _ e => e
      obtain ⟨h', tk', nw', own, e, F', N', hs', ho, hoff, hr⟩ := hq
      have off3 : LCg.Off3 I C D (own ++ nw) := LCg.Off3.of fun p hp => by
        rcases List.mem_append.mp hp with hp | hp
        · exact hoff p hp
        · exact off.mem p hp
      have hsub : Sub news (own ++ nw) := fun p hp => List.mem_append_right _ (hs p hp)
      refine ⟨h', tk', own ++ nw, e, F', fun p hp => N' p ?_, off3, hmono _ _ hS hsub, ih (i + 1) _ _ (by omega) hr hsub⟩
      rcases List.mem_cons.mp hp with rfl | hp
      · exact hs' _ List.mem_cons_self
      · rcases List.mem_cons.mp hp with rfl | hp
        · exact hs' _ (List.mem_cons_of_mem _ List.mem_cons_self)
        · rcases List.mem_cons.mp hp with rfl | hp
          · exact hs' _ (List.mem_cons_of_mem _ (List.mem_cons_of_mem _ List.mem_cons_self))
          · rcases List.mem_append.mp hp with hp | hp
            · exact ho _ hp
            · exact hs' _ (List.mem_cons_of_mem _ (List.mem_cons_of_mem _ (List.mem_cons_of_mem _ hp)))
  exact key n 0 [] news (by omega) h0 (fun _ h => h)
theorem srcMono {ax : Addr} {its : Array Value} : ∀ a b : Led, LCg.SrcAt h₀ ax its a → Sub a b → LCg.SrcAt h₀ ax its b := by
  rintro a b (h | ⟨o, hm, r⟩) S
  · exact .inl h
  · exact .inr ⟨o, S _ hm, r⟩
theorem list_L {A : Around} {E : Value → Shared → Prop} {news : Led} {l : Addr} {vs : List Value} {k : Nat} {Q : Value → Shared → Prop} (F : Fr h₀ L s.heap m) (N : News h₀ L s.heap news) (hm : (l, W.listOf vs.toArray k) ∈ news)
    (h : ∀ D c h', Fr h₀ L h' m → News h₀ L h' ((D, W.listOf vs.toArray c) :: news) → (∀ p ∈ news, p.1 < D) → Q (.ref D) { s with heap := h' })
    (hsz : vs.length ≤ sizeLine) : wpAny (model prog w) A (call (.type "list") [.ref l]) Q E s :=
  list_copyK F N (News.isList N hm) (fun D c h' F' N' l1 => h D c h' F' N' l1) hsz
end
end Mine02
end
section
namespace Mine02
local macro_rules | `(tactic| k_mem) => `(tactic| first | with_reducible assumption | with_reducible exact List.mem_cons_self | (refine List.mem_cons_of_mem _ ?_; k_mem) | (refine Sub.get (by with_reducible assumption) ?_; k_mem))
local macro_rules | `(tactic| is_list) => `(tactic| exact News.isList (by k_asm) (by k_mem))
local macro_rules | `(tactic| k_room) => `(tactic| ktr_room)
local macro_rules | `(tactic| k_units) => `(tactic| ktr_units)
local macro_rules | `(tactic| k_all) => `(tactic| first | assumption | exact allLt_ne (by assumption) | exact allLt_ne (by assumption : _ ∧ AllLt _ _).2 | exact allLt_ne (by assumption : _ ∧ _ ∧ AllLt _ _).2.2 | exact allLt_ne (by assumption : _ ∧ _ ∧ _ ∧ AllLt _ _).2.2.2 | exact allLt_ne (by assumption : _ ∧ _ ∧ _ ∧ _ ∧ AllLt _ _).2.2.2.2 | exact allLt_ne (allLt_of (by assumption)))
local macro_rules | `(tactic| ktr_enter) => `(tactic| (refine' code_defC ?k1 ?k2 ?k3 ?k4 ?k5 ?kA ?kF ?kK ?k6 ?k7 ?k8 ?k9 ?kB ?kD ?_ ?c2 ?c3 ?c4; (case kA | kF => exact rfl); (case kK => assumption); (case k1 | k2 | k3 | k4 | k5 => k_asm); (case k6 | k7 => k_is); (case k8 => ktr_room); (case k9 => exact BindsTo.of_eq rfl); (case kB => exact rfl); (case kD => decide +kernel); (case c2 | c3 | c4 => exact rfl); k_whole; intro g' L' h' tk' cells' FG' F' N' Y' B' X' T' l1; (try k_lt l1); k_cells Y'; (try simp only [List.cons_append, List.nil_append] at N'); (try dsimp only); (try k_lift B'); (try k_fold)))
local macro_rules | `(tactic| ktr_enter) => `(tactic| (refine' code_def ?k1 ?k2 ?k3 ?k4 ?k5 ?kA ?kF ?kK ?k6 ?k7 ?k8 ?k9 ?kB ?_ ?c2 ?c3 ?c4 ?c5; (case kA | kF => exact rfl); (case kK => assumption); (case k1 | k2 | k3 | k4 | k5 => k_asm); (case k6 | k7 => k_is); (case k8 => ktr_room); (case k9 => exact BindsTo.of_eq rfl); (case c5 => decide); (case kB => exact locs rfl); (case c2 | c3 | c4 => exact rfl); k_whole; intro g' L' h' FG' F' N' B' X' T'; (try dsimp only); (try k_lift B'); (try k_fold)))
set_option hygiene false
local macro_rules | `(tactic| walk_at "@c") => `(tactic| ((case zB | zF | zX | zN | zT => k_asm); (case zhk => first | exact rfl | assumption); (case zhd => ktr_room); (case zhu => ktr_units); (try (case zhr => walk_at "@R")); (try (case zhp => walk_at "@P")); (try (case zhpu => walk_at "@P")); (try (case zhl => walk_at "@L")); (try (case zhlen => walk_at "@N")); (try (case zhlen2 => walk_at "@N")); (try (case zh1n => walk_at "@O")); (try (case zhn => walk_at "@O")); (try (case zhq => walk_at "@O")); (try (case zhq2 => walk_at "@O")); (try (case zhe => walk_at "@O")); (try (case zhm9 => walk_at "@O")); (try (case zhb => walk_at "@B")); (try (case zhb2 => walk_at "@B"))))
local macro_rules | `(tactic| walk_at "@R") => `(tactic| (exact RingIn.mk' (by k_mem) (by k_mem)))
local macro_rules | `(tactic| walk_at "@P") => `(tactic| (first | exact PolyIn.mk' (by k_mem) (by k_mem) (by k_mem) (by first | assumption | l_ints) | exact ListIn.mk' (by k_mem) (by first | assumption | l_ints)))
local macro_rules | `(tactic| walk_at "@L") => `(tactic| (exact ListIn.mk' (by k_mem) (by first | assumption | l_ints)))
local macro_rules | `(tactic| walk_at "@N") => `(tactic| (first | assumption | omega | exact lprodx_length .. | exact powL_len _ (by omega) (by assumption) _ | (simp only [List.length_map, List.length_zipWith, List.length_cons, List.length_nil, List.length_replicate, List.length_append, List.length_set, mulq_length, lprod_length, rangeKs_length] <;> first | rfl | omega)))
local macro_rules | `(tactic| walk_at "@O") => `(tactic| (omega))
local macro_rules | `(tactic| walk_at "@B") => `(tactic| (first | assumption | exact bd_mapf (by omega) (by omega) _ _ | exact bd_zipf (by omega) (by omega) _ _ _ | exact bd_mulq (by omega) (by omega) _ _ _ | exact bd_lprod (by omega) (by omega) _ _ _ | exact bd_lprodx (by omega) (by omega) _ _ _ | exact bd_powL (by omega) (by omega) (by omega) (by assumption) _))
local macro_rules | `(tactic| walk_at "@pn") => `(tactic| (intro r' nw' h' tk' F' N' S' O'; refine PolyNew.elim O' ?_; clear O'; intro f' d' h1' k1' h2' k2' l' vs' k' c' e1' m1' m2' m3' i3' n3'; subst e1'; clear n3'))
local macro_rules | `(tactic| walk_at "@po") => `(tactic| (intro r' nw' h' tk' F' N' S' O'; refine PolyIn.elim O' ?_; clear O'; intro f' d' h1' k1' h2' k2' l' vs' k' c' e1' m1' m2' m3' i3'; subst e1'))
local macro_rules | `(tactic| walk_at "@ln") => `(tactic| (intro r' nw' h' tk' F' N' S' O'; refine ListNew.elim O' ?_; clear O'; intro l' vs' k' e1' m1' i1' n1'; subst e1'))
local macro_rules | `(tactic| walk_at "@ls") => `(tactic| (intro r' nw' h' tk' F' N' S' O'; refine ListIn.elim O' ?_; clear O'; intro l' vs' k' e1' m1' i1'; subst e1'))
local macro_rules | `(tactic| walk_at "@bo") => `(tactic| (intro r' nw' h' tk' F' N' S' O'; (replace N' := newsDown N' S'); clear S'; subst O'))
local macro_rules | `(tactic| walk_at "@e") => `(tactic| (k_dflt (first | refine cmpBack_ref ?_ | refine cmpBack_bool ?_ | skip); (try k_sweep)))
/-- a call of an int's number slot with an object at its right declines -/
theorem int_ref {x : Addr} {ox : Obj} (hd : ox.data = .plain) (a : Int) (t : Tok) :
    GivesAt (fun s => s.heap.get? x = some ox) (Builtin.«int.__mul__» ⟨[.int a t, .ref x], []⟩) (.val .notImplemented)
    ∧ GivesAt (fun s => s.heap.get? x = some ox) (Builtin.«int.__add__» ⟨[.int a t, .ref x], []⟩) (.val .notImplemented)
    ∧ GivesAt (fun s => s.heap.get? x = some ox) (Builtin.«int.__sub__» ⟨[.int a t, .ref x], []⟩) (.val .notImplemented) := by
  refine ⟨?_, ?_, ?_⟩ <;> (
  intro prog w A R s hx hq
  refine wpAny_mono (M := model prog w) (Q := fun fin s' => ∃ v, fin = .done (.ret v) ∧ R (.ok (.ret v)) s') ?_ (fun fin s' h' => by obtain ⟨v, rfl, hv⟩ := h'; exact hv) fun _ _ x => x
  obtain ⟨hp, g, d, tk, os⟩ := s
  have hx' : Heap.get? hp x = some ox := hx
  wp_walk
  rw [hd]
  wp_walk
  exact ⟨_, rfl, hq⟩)
theorem binop_R {prog : Program} {w : World} {A : Around} {E : Value → Shared → Prop} {s : Shared} {K : Frag} {x C L f g : Addr} {h₀ : Heap} {m : Str → Option Value} {ox : Obj} {od : Option Obj}
    {op : Operator} {a : Int} {t : Tok} {idl : String} {B : Builtin} {Q : Value → Shared → Prop}
    (fills : fillsNumberSlot (.type "int") op.info.2 = pure true) (slot : Slot "int" (PySem.dunder op.info.2) idl) (entry : entryFor table idl = some B) (args : argsOk idl ⟨[.int a t, .ref x], []⟩)
    (gv : GivesAt (fun s => s.heap.get? x = some ox) (B ⟨[.int a t, .ref x], []⟩) (.val .notImplemented))
    (F : Fr h₀ L s.heap m) (X₀ : K.In h₀) (I : InstAt s.heap x ox C od) (hc : selfFirst K C = true)
    (hs : findIn K (.ref C) (PySem.dunder op.info.2) = some (some (.ref f))) (hr : findIn K (.ref C) (dunderR op.info.2) = some (some (.ref g))) (hf : isFn K (.ref g) = true)
    (hsub : subIn K (.ref C) (.type "int") = some false)
    (h : wpAny (model prog w) A (call (.ref g) [.ref x, .int a t]) (PySem.W.CmpBack Q) E s) : wpAny (model prog w) A (binaryOp op (.int a t) (.ref x)) Q E s := by
  have X := X₀.keeps F.keep
  obtain ⟨cd, rest, hcd, hm⟩ := ksp_first hc
  rcases hi : op.info with ⟨sym, nm'⟩
  rw [hi] at hs hr fills slot
  dsimp only at hs hr fills slot
  have two := ksp_try X I hr hf h
  have hx : s.heap.get? x = some ox := I.at_
  obtain ⟨hh, gg, d, tt, os⟩ := s
  have one : wpAny (model prog w) A (tryMethod (.int a t) (PySem.dunder nm') (.ref x)) (fun r s' => r = none ∧ s' = ⟨hh, gg, d, tt, os⟩) E ⟨hh, gg, d, tt, os⟩ :=
    wpAny_tryMethod_declines (typeIs_int _ a t) slot (call_givesAt slot (typeIs_int _ a t) entry args gv hx ⟨rfl, rfl, rfl⟩)
  have L1 : Looks (model prog w) hh (typeOf (.ref x)) (.ref C) := I.type
  have L2 : Looks (model prog w) hh (typeOf (.int a t)) (.type "int") := Looks.of_pure rfl
  have L3 : Looks (model prog w) hh (fillsNumberSlot (.ref C) nm') true := fills_K X hcd hm hs
  have L4 : Looks (model prog w) hh (fillsNumberSlot (.type "int") nm') true := Looks.of_pure fills
  have L5 : Looks (model prog w) hh (isSubtype (.ref C) (.type "int")) false := looks_subIn X hsub
  have L7 : Looks (model prog w) hh (numberSlotInPython (.type "int") nm') false := Looks.of_pure rfl
  have hne : (Value.type "int" == Value.ref C) = false := Bool.eq_false_iff.mpr fun q => by cases beq_iff_eq.mp q
  simp only [binaryOp, hi]
  refine wpAny_holding (wpAny_bind ?_)
  unfold binaryOp1
  refine wpAny_bind (L2.at (wpAny_bind (L1.at (wpAny_bind (L4.at ?_)))))
  simp only [hne, Bool.false_eq_true, if_false]
  ksp_lk
  refine wpAny_mono one (fun r s' hr' => ?_) fun _ _ e => e
  obtain ⟨rfl, rfl⟩ := hr'
  ksp_lk
  refine wpAny_mono two (fun r s' hr' => ?_) fun _ _ e => e
  obtain ⟨v, rfl, hq⟩ := hr'
  ksp_lk
  exact hq

/-- the frame of a def whose caller stands at the bottom of the stack and may have cells; the callee may catch what its callees raise -/
theorem code_defT {prog : Program} {w : World} {A₀ A : Around} {s : Shared} {base h₀ : Heap} {L : Addr} {m : Str → Option Value} {env : Env} {news : List (Addr × Obj)} {K : Frag} {p : Program} {loose : List Str} {mean : ExcName → Option Value} {mg mb : Str → Option Value}
    {R : Result → Shared → Prop} {name qual : Str} {params : Arguments} {body : List Stmt} {scope : Scope} {dV kV doc pm cdv ct oc : Value} {an od : Option Addr} {osl : Array (Option Value)} {f : Addr} {args : Args} {binds : List (Str × Value)}
    (B : Below A₀ base [] h₀) (F : Fr h₀ L s.heap m) (X₀ : K.In h₀) (N : News h₀ L s.heap news) (T : Top p loose mean mg mb h₀) (hA : A.frames = some [env]) (hf : env.frame = some L) (hke : env.scope.kind = .function)
    (ho : K.lookup f = some ⟨oc, od, .func (fnOf name qual params body scope dV kV doc pm an cdv ct), osl⟩) (hcd : codeIn K cdv qual = true) (hroom : A.depth < recursionLimit)
    (hbind : BindsTo s (fnOf name qual params body scope dV kV doc pm an cdv ct) args binds) (hloc : ∀ y ∈ binds, scope.names.lookup y.1 = some .local)
    (h : ∀ g L' h₁, Fr h₀ L g m → Fr g L' h₁ (fun y => binds.reverse.lookup y) → News g L' h₁ news → Below A base [env] g → K.In g → Top p loose mean mg mb g → KtsDicts ([env].filterMap (·.frame)) g →
      wpAny (model prog w) (A.deeper (envOf qual scope L' f cdv)) (execs body (envOf qual scope L' f cdv))
        (fun fl s' => LeaveS0 ([env].filterMap (·.frame)) h₀ L m g R (match fl with | .ret v => v | _ => .none) s')
        (fun e s' => wpAny (model prog w) (A.deeper (envOf qual scope L' f cdv)) (leaving (envOf qual scope L' f cdv) e) (fun _ s'' => R (.error e) s'') (fun e' s'' => R (.error e') s'') s')
        { s with heap := h₁, toks := s.toks + binds.length })
    (hco : scope.isCoroutine = false) (hgen : scope.isGenerator = false) (hk : scope.kind = .function)
    (hcell : ∀ x ∈ scope.names, x.2 ≠ .cell) : codeAny (model prog w) A (.call (.ref f) args) R s := by
  have X := X₀.keeps F.keep
  obtain ⟨FG, BG, st, -⟩ := groundX (R := R) B F N hA hf hke
  have hfs : [env].filterMap (·.frame) = [L] := by simp [hf]
  refine codeAny_call_def (fd := fnOf name qual params body scope dV kV doc pm an cdv ct) (body := body) (binds := binds) hroom (X _ _ ho) rfl (T.nolimit.keeps F.keep) (codeRec_of X hcd) rfl hbind hcell hloc (fun h₁ hns hk₁ => ?_) hco hgen hk
  have goal := h (hideAll s.heap (news.map (·.1))) s.heap.objs.size h₁ FG ⟨hns, fun b o e => hk₁ b o (of_hideAll _ e), Nat.le_of_eq (hideAll_size _ _)⟩
    (fun q hq => ⟨hk₁ _ _ (N q hq).1, Nat.ne_of_lt (Heap.lt_size (N q hq).1), hideAll_none _ (List.mem_map_of_mem hq)⟩) BG (X₀.keeps (by exact st)) (T.keeps (by exact st))
    (by rw [hfs]; intro b hb
        obtain rfl := List.mem_singleton.mp hb
        obtain ⟨oL, es, ep, hL, hLd, -⟩ := FG.ns
        exact ⟨oL, es, ep, hL, hLd⟩)
  refine wpAny_mono goal (fun fl s' hl => ?_) fun _ _ y => y
  generalize hideAll s.heap (news.map (·.1)) = g at *
  obtain ⟨g', L', m', news', T', F', N', k⟩ := hl
  rw [hfs] at T'
  have nL : h₀.get? L = none := kts_self FG
  have keepg : ∀ b o, h₀.get? b = some o → g'.get? b = some o := fun b o e => T'.other b o (st b o e) fun z => by
    rw [List.mem_singleton.mp z, nL] at e; cases e
  obtain ⟨oL, es, ep, hL, hLd, hLk, hLf⟩ := FG.ns
  obtain ⟨sl, hs⟩ := T'.up hL
  refine k ⟨⟨_, es, ep, F'.keep _ _ hs, hLd, hLk, hLf⟩, fun b o e => F'.keep b o (keepg b o e), FG.above⟩ fun q hq => ⟨(N' q hq).1, fun z => ?_, ?_⟩
  · have hn := (N' q hq).2.2
    rw [z, hs] at hn; cases hn
  · have hn := (N' q hq).2.2
    cases z : h₀.get? q.1 with
    | none => rfl
    | some o => rw [keepg _ _ z] at hn; cases hn

section
open PySem.SeqAt

theorem readsRows3 {h : Heap} {a a0 a1 a2 : Addr} {vs0 vs1 vs2 : List Value} {r0 r1 r2 : List Int} (hl : h.IsList a #[.ref a0, .ref a1, .ref a2])
    (h0 : h.IsList a0 vs0.toArray) (i0 : IntsAre vs0 r0) (h1 : h.IsList a1 vs1.toArray) (i1 : IntsAre vs1 r1) (h2 : h.IsList a2 vs2.toArray) (i2 : IntsAre vs2 r2) :
    ∃ as, Reads h (.ref a) (.list [.list (r0.map PyData.int), .list (r1.map PyData.int), .list (r2.map PyData.int)]) as := by
  obtain ⟨o, ho, hc, n, hd⟩ := hl
  exact ⟨_, Reads.list ho hc hd (.cons (reads_of_ints h0 i0) (.cons (reads_of_ints h1 i1) (.cons (reads_of_ints h2 i2) .nil)))⟩
theorem shapedRows3 (r0 r1 r2 : List Int) : PySem.SeqAt.shaped (.list [.list (r0.map PyData.int), .list (r1.map PyData.int), .list (r2.map PyData.int)]) = true := by
  have h0 := PySem.W.depthAll_ints r0
  have h1 := PySem.W.depthAll_ints r1
  have h2 := PySem.W.depthAll_ints r2
  unfold PySem.SeqAt.shaped
  rw [Bool.and_eq_true]
  refine ⟨by simp [PyData.canLay0, PyData.canLayAll0, canLayAll0_ints], decide_eq_true ?_⟩
  simp only [PyData.depth, PyData.depthAll]
  omega
theorem ne_rows3 {prog : Program} {w : World} {A : Around} {E : Value → Shared → Prop} {s : Shared} {Q : Value → Shared → Prop} {a a0 a1 a2 b b0 b1 b2 : Addr} {vs0 vs1 vs2 us0 us1 us2 : List Value} {r0 r1 r2 : List Int}
    (hl : s.heap.IsList a #[.ref a0, .ref a1, .ref a2]) (h0 : s.heap.IsList a0 vs0.toArray) (i0 : IntsAre vs0 r0) (h1 : s.heap.IsList a1 vs1.toArray) (i1 : IntsAre vs1 r1) (h2 : s.heap.IsList a2 vs2.toArray) (i2 : IntsAre vs2 r2)
    (hl' : s.heap.IsList b #[.ref b0, .ref b1, .ref b2]) (h0' : s.heap.IsList b0 us0.toArray) (i0' : IntsAre us0 r0) (h1' : s.heap.IsList b1 us1.toArray) (i1' : IntsAre us1 r1) (h2' : s.heap.IsList b2 us2.toArray) (i2' : IntsAre us2 r2)
    (hu : A.units + 64 < cLine) (h : Q (.bool false) s) : wpAny (model prog w) A (compareOp .NotEq (.ref a) (.ref b)) Q E s := by
  obtain ⟨as, ra⟩ := readsRows3 hl h0 i0 h1 i1 h2 i2
  obtain ⟨bs, rb⟩ := readsRows3 hl' h0' i0' h1' i1' h2' i2'
  refine ne_dataH_same ra rb (shapedRows3 ..) (shapedRows3 ..) hu (by simp [noMix, noMixAll, noMix_ints]) ?_
  have hs : same (.list [.list (r0.map PyData.int), .list (r1.map PyData.int), .list (r2.map PyData.int)]) (.list [.list (r0.map PyData.int), .list (r1.map PyData.int), .list (r2.map PyData.int)]) = true := by
    simp [PySem.Spec.same, PySem.Spec.sameAll, same_ints]
  rw [hs]
  exact h
end

/-- two places of a ledger that hold different objects are different -/
theorem news_ne {h₀ : Heap} {L : Addr} {h : Heap} {news : List (Addr × Obj)} (N : News h₀ L h news) {a b : Addr} {o o' : Obj} (ha : (a, o) ∈ news) (hb : (b, o') ∈ news) (h : o ≠ o') : a ≠ b := by
  rintro rfl
  have h1 := (N _ ha).1
  have h2 := (N _ hb).1
  exact h (Option.some.inj (h1.symm.trans h2))
/-- a ledger with one of its places ahead -/
theorem news_at {h₀ : Heap} {L : Addr} {h : Heap} {news : List (Addr × Obj)} (N : News h₀ L h news) {d : Addr} {o : Obj} (hd : (d, o) ∈ news) :
    ∃ rest : List (Addr × Obj), News h₀ L h ((d, o) :: rest) ∧ (∀ p ∈ rest, p.1 ≠ d) ∧ ∀ a o', (a, o') ∈ news → o' ≠ o → (a, o') ∈ rest :=
  ⟨news.filter fun p => p.1 != d, fun p hp => by
      rcases List.mem_cons.mp hp with rfl | hp
      · exact N _ hd
      · exact N _ (List.mem_filter.mp hp).1,
    fun p hp => by simpa using (List.mem_filter.mp hp).2,
    fun a o' ha hne => List.mem_filter.mpr ⟨ha, by simpa using news_ne N ha hd hne⟩⟩

theorem lt_ne_succ {d k : Nat} (h : d < k) : k + 1 ≠ d := by omega

theorem put2 {name : Str} {hsh h1 h2 : Int} {key v1 v2 v : Value} {y1 y2 : Value} {n : Nat} (e1 : y1.isStr name = false) (e2 : y2.isStr name = true) :
    (putL name hsh key v [⟨h1, y1, v1⟩, ⟨h2, y2, v2⟩], putN name [⟨h1, y1, v1⟩, ⟨h2, y2, v2⟩] n) = ([⟨h1, y1, v1⟩, ⟨h2, y2, v⟩], n) := by
  simp [putL, putN, e1, e2]

theorem nat_of10 {o : Obj} {x : Int} {t : Tok} (_ : o.data = .cell (some (.int (1 + Int.fmod x 10) t))) : ∃ n : Nat, 1 + Int.fmod x 10 = (n : Int) ∧ 1 ≤ n ∧ n ≤ 10 := by
  have h1 := fmod_lo x (show (0 : Int) < 10 by omega)
  have h2 := fmod_hi x (show (0 : Int) < 10 by omega)
  exact ⟨(1 + Int.fmod x 10).toNat, by omega, by omega, by omega⟩

theorem off1_of {D : Addr} : ∀ {l : List (Addr × Obj)}, (∀ p ∈ l, p.1 ≠ D) → LCg.Off1 D l
  | [], _ => trivial
  | _ :: _, h => ⟨h _ List.mem_cons_self, off1_of fun p hp => h p (List.mem_cons_of_mem _ hp)⟩
theorem walkOff1 : True := by
  w_top off
  trivial
set_option maxHeartbeats 8000000 in
theorem ring_spec (w mean mg mb) (news : Led) (rg : Addr) (v : Value) (ns : List Int) (q : Int) (n : Nat) (hr : RingIn news rg q n) (hl : ListIn news v ns) (hlen : ns.length ≤ n) (hn : n ≤ 64) :
    Spec w mean mg mb 56 [.ref rg, v] 3 news (fun r nw => PolyNew news nw r rg (ns ++ List.replicate (n - ns.length) 0)) := by
  obtain ⟨l, vs, k, rfl, hm, hi⟩ := hl
  refine RingIn.elim hr ?_
  clear hr
  intro d h1 k1 h2 k2 tq tn c hr1 hr2
  unfold Spec
  k_fill
  intro dp un gd cn cs a ccd cl outer A₀ base h₀ L m s Q E B F X N T hk hd hu hret
  first | k_dflt ktr_enter | fail "enter"
  k_steps
  all_goals (refine hret _ _ _ _ (by k_asm) (by k_asm) (by intro p hp; k_mem) ?_)
  all_goals (refine ⟨_, _, _, _, _, _, _, _, _, _, rfl, by k_mem, by k_mem, by k_mem, ?_, ?_⟩)
  · (rename IntsAre _ (ns ++ _) => hI)
    refine Eq.mp (congrArg (IntsAre _) (congrArg (ns ++ ·) ?_)) hI
    rw [List.map_const', rangeKs_length]
    congr 1
    omega
  · k_all
  · have e : n - ns.length = 0 := by omega
    rw [e]; simpa using hi
  · k_all
theorem walkOff2 : True := by
  w_top off
  trivial
set_option maxHeartbeats 8000000 in
theorem ringi_spec (w mean mg mb) (news : Led) (rg : Addr) (x : Int) (t : Tok) (q : Int) (n : Nat) (hr : RingIn news rg q n) (h1n : 1 ≤ n) (hn : n ≤ 64) :
    Spec w mean mg mb 56 [.ref rg, .int x t] 3 news (fun r nw => PolyNew news nw r rg (x :: List.replicate (n - 1) 0)) := by
  refine RingIn.elim hr ?_
  clear hr
  intro d h1 k1 h2 k2 tq tn c hr1 hr2
  unfold Spec
  k_fill
  intro dp un gd cn cs a ccd cl outer A₀ base h₀ L m s Q E B F X N T hk hd hu hret
  first | k_dflt ktr_enter | fail "enter"
  k_steps
  all_goals (refine hret _ _ _ _ (by k_asm) (by k_asm) (by intro p hp; k_mem) ?_)
  all_goals (refine ⟨_, _, _, _, _, _, _, _, _, _, rfl, by k_mem, by k_mem, by k_mem, ?_, ?_⟩)
  · (rename IntsAre _ ([_] ++ _) => hI)
    refine Eq.mp (congrArg (IntsAre _) ?_) hI
    rw [List.map_const', rangeKs_length, List.singleton_append]
    congr 2
    omega
  · k_all
  · have e : n - 1 = 0 := by omega
    rw [e]; exact .cons _ _ .nil
  · k_all
section
local macro_rules | `(tactic| walk_at "compareOp Eq ref ref") => `(tactic| (k_here; (with_reducible show wpAny _ _ (compareOp CmpOp.Eq (Value.ref _) (Value.ref _)) _ _ _); k_dflt (refine' eq_intsK ?k1 ?k2 ?k3 ?k4 ?k5 ?_; (case k1 => exact News.isList (by k_asm) (by k_mem)); (case k2 => l_ints); (case k3 => exact News.isList (by k_asm) (by k_mem)); (case k4 => l_ints); (case k5 => ktr_units))))
local macro_rules | `(tactic| walk_at "compareOp NotEq ref ref") => `(tactic| (k_here; (with_reducible show wpAny _ _ (compareOp CmpOp.NotEq (Value.ref _) (Value.ref _)) _ _ _); k_dflt (refine' ne_intsK ?k1 ?k2 ?k3 ?k4 ?k5 ?_; (case k1 => exact News.isList (by k_asm) (by k_mem)); (case k2 => l_ints); (case k3 => exact News.isList (by k_asm) (by k_mem)); (case k4 => l_ints); (case k5 => ktr_units))))
theorem walkOff3 : True := by
  w_top off
  trivial
set_option maxHeartbeats 4000000 in
theorem eq_spec (w mean mg mb) (news : Led) (rg : Addr) (v u : Value) (as bs : List Int) (hp : PolyIn news v rg as) (hpu : PolyIn news u rg bs) :
    Spec w mean mg mb 210 [v, u] 20 news (fun r _ => r = .bool (decide (as = bs))) := by
  refine PolyIn.elim hp ?_
  clear hp
  intro f df h3 k3 h4 k4 l vs k cf eP9 hp1 hp2 hp3 hi
  subst eP9
  refine PolyIn.elim hpu ?_
  clear hpu
  intro f2 df2 h5 k5 h6 k6 l2 vs2 kk cf2 eP9 hp4 hp5 hp6 hi2
  subst eP9
  unfold Spec
  k_fill
  intro dp un gd cn cs a ccd cl outer A₀ base h₀ L m s Q E B F X N T hk hd hu hret
  first | k_dflt ktr_enter | fail "enter"
  k_steps
  exact hret _ _ _ _ (by k_asm) (by k_asm) (by intro p hp; k_mem) rfl
end
theorem walkOff4 : True := by
  w_top off
  trivial
set_option maxHeartbeats 4000000 in
theorem rests_spec (w mean mg mb) (news : Led) (v : Value) (ns : List Int) (q : Int) (t : Tok) (hl : ListIn news v ns) (hlen : ns.length ≤ 64) (hq : 0 < q) :
    Spec w mean mg mb 250 [v, .int q t] 2 news (fun r nw => ListNew news nw r (ns.map (fun x => Int.fmod x q))) := by
  obtain ⟨l, vs, k, rfl, hm, hi⟩ := hl
  unfold Spec
  k_fill
  intro dp un gd cn cs a ccd cl outer A₀ base h₀ L m s Q E B F X N T hk hd hu hret
  first | k_dflt ktr_enter | fail "enter"
  k_steps
  exact hret _ _ _ _ (by k_asm) (by k_asm) (by intro p hp; k_mem) ⟨_, _, _, rfl, by k_mem, by assumption, off1_ne (by assumption : _ ∧ LCg.Off1 _ news).2⟩
section
local macro_rules | `(tactic| walk_at "exec For Name Call cons nil") => `(tactic| (k_here; (rename Fr _ _ _ _ => lF'); (with_unfolding_all refine' For_invVF lF' ?k1 ?k2 ?_; (case k1 => exact rfl); (case k2 => exact rfl); k_whole)))
local macro_rules | `(tactic| walk_at "pyIter ref") => `(tactic| (k_here; refine halt_of ?_))
local macro_rules | `(tactic| walk_at "binaryOp Mult int int") => `(tactic| (k_here; (with_reducible show wpAny _ _ (binaryOp Operator.Mult (Value.int _ _) (Value.int _ _)) _ _ _); k_dflt (refine PyProof.Rows.mul_int ?_ (mulOk_bd (bd_getD (by assumption) _) (bd_getD (by assumption) _)))))
theorem walkOff5 : True := by
  w_top off
  trivial
set_option maxHeartbeats 4000000 in
theorem school_spec (w mean mg mb) (news : Led) (rg : Addr) (v u : Value) (as bs : List Int) (q : Int) (n : Nat) (hr : RingIn news rg q n) (hp : PolyIn news v rg as) (hpu : PolyIn news u rg bs) (hlen : as.length = n) (hlen2 : bs.length = n) (h1n : 1 ≤ n) (hn : n ≤ 64) (hq : 0 < q) (hb : ∀ a ∈ as, Bd a) (hb2 : ∀ a ∈ bs, Bd a) :
    Spec w mean mg mb 120 [v, u] 2 news (fun r nw => ListIn nw r ((sbook as bs n).map fun c => Int.fmod c q)) := by
  refine RingIn.elim hr ?_
  clear hr
  intro d h1 k1 h2 k2 tq tn c hr1 hr2
  refine PolyIn.elim hp ?_
  clear hp
  intro f df h3 k3 h4 k4 l vs k cf eP9 hp1 hp2 hp3 hi
  subst eP9
  refine PolyIn.elim hpu ?_
  clear hpu
  intro f2 df2 h5 k5 h6 k6 l2 vs2 kk cf2 eP9 hp4 hp5 hp6 hi2
  subst eP9
  unfold Spec
  k_fill
  intro dp un gd cn cs a ccd cl outer A₀ base h₀ L m s Q E B F X N T hk hd hu hret
  first | k_dflt ktr_enter | fail "enter"
  k_steps
  unfold Halt
  refine' loop_rl (n := n) [Str.ofString "j"] (outer1 as bs n) ?hh ?hr ?hbd ?hnn ?F ?N ?hD ?hi (fun i u h tk vs k t zn hin hI hS hoff F' N' => ?turn) (fun u h tk vs k hI F' N' => ?done)
  case hh => rfl
  case hr => assumption
  case hbd => omega
  case hnn => omega
  case F => k_asm
  case N => k_asm
  case hD => exact off1_ne (by assumption)
  case hi =>
    rename IntsAre _ (List.map _ (rangeKs _ _)) => hZ
    rw [outer1]
    rw [List.map_const', rangeKs_length] at hZ
    simpa using hZ
  case turn =>
    k_steps
    unfold Halt
    refine' loop_rl (n := n - i) [] (fun j => inner1 as bs i j (outer1 as bs n i)) ?hh ?hr ?hbd ?hnn ?F ?N ?hD ?hi (fun j u2 h2 tk2 vs2 kk2 t2 zn2 hin2 hI2 hS2 hoff2 F2 N2 => ?turn2) (fun u2 h2 tk2 vs2 kk2 hI2 F2 N2 => ?done2)
    case hh => rfl
    case hr => assumption
    case hbd => omega
    case hnn => omega
    case F => k_asm
    case N => k_asm
    case hD => exact hoff
    case hi => exact hI
    case turn2 =>
      have hL2 : (inner1 as bs i j (outer1 as bs n i)).length = n := by rw [inner1_length, outer1_length]
      k_steps
      refine LEnd.intro (by k_asm) (by k_asm) (by k_mem) (by intro p hp; k_mem) ?hI ?hr
      case hr => intro z h1 h2; simp [h1]
      case hI => 
        have e1 : ((0 : Int) + (i : Int) + (0 + (j : Int))).toNat = i + j := by omega
        have e2 : ((0 : Int) + (i : Int)).toNat = i := by omega
        have e3 : ((0 : Int) + (j : Int)).toNat = j := by omega
        rename IntsAre _ (List.set _ _ _) => hS9
        refine Eq.mp (congrArg (IntsAre _) ?_) hS9
        rw [e1, e2, e3]; rfl
    case done2 =>
      k_steps
      refine LEnd.intro (by k_asm) (by k_asm) (by k_mem) (by intro p hp; k_mem) ?hI ?hr
      case hr => (intro z h1 h2; have h3 : z ≠ Str.ofString "j" := (by intro e; subst e; simp at h2); simp [h1, h3])
      case hI => exact hI2
  case done =>
    k_steps
    unfold Halt
    refine' loop_rl (n := n - 1) [Str.ofString "i"] (outer2 as bs n) ?hh ?hr ?hbd ?hnn ?F ?N ?hD ?hi (fun i u h tk vs k t zn hin hI hS hoff F' N' => ?turn) (fun u h tk vs k hI F' N' => ?done)
    case hh => rfl
    case hr => assumption
    case hbd => omega
    case hnn => omega
    case F => k_asm
    case N => k_asm
    case hD => exact off1_ne (by assumption)
    case hi => exact hI
    case turn =>
      k_steps
      unfold Halt
      refine' loop_rl (n := i + 1) [] (fun t => inner2 as bs n (i + 1) t (outer2 as bs n i)) ?hh ?hr ?hbd ?hnn ?F ?N ?hD ?hi (fun j u2 h2 tk2 vs2 kk2 t2 zn2 hin2 hI2 hS2 hoff2 F2 N2 => ?turn2) (fun u2 h2 tk2 vs2 kk2 hI2 F2 N2 => ?done2)
      case hh => rfl
      case hr => assumption
      case hbd => omega
      case hnn => omega
      case F => k_asm
      case N => k_asm
      case hD => exact hoff
      case hi => exact hI
      case turn2 =>
        have hL2 : (inner2 as bs n (i + 1) j (outer2 as bs n i)).length = n := by rw [inner2_length, outer2_length]
        k_steps
        refine LEnd.intro (by k_asm) (by k_asm) (by k_mem) (by intro p hp; k_mem) ?hI ?hr
        case hr => intro z h1 h2; simp [h1]
        case hI => 
          have e1 : ((n : Int) - (1 + (i : Int)) + (j : Int) + (1 + (i : Int)) - (n : Int)).toNat = j := by omega
          have e2 : ((n : Int) - (1 + (i : Int)) + (j : Int)).toNat = n - (i + 1) + j := by omega
          have e3 : ((1 : Int) + (i : Int)).toNat = i + 1 := by omega
          rename IntsAre _ (List.set _ _ _) => hS9
          refine Eq.mp (congrArg (IntsAre _) ?_) hS9
          rw [e1, e2, e3]; rfl
      case done2 =>
        k_steps
        refine LEnd.intro (by k_asm) (by k_asm) (by k_mem) (by intro p hp; k_mem) ?hI ?hr
        case hr => (intro z h1 h2; have h3 : z ≠ Str.ofString "i" := (by intro e; subst e; simp at h2); simp [h1, h3])
        case hI => exact hI2
    case done =>
      have hLo : (outer2 as bs n (n - 1)).length = n := outer2_length as bs n (n - 1)
      k_steps
      refine hret _ _ _ _ (by k_asm) (by k_asm) (by intro p hp; k_mem) ⟨_, _, _, rfl, by k_mem, ?_⟩
      assumption
end
section
local macro_rules | `(tactic| walk_at "call ref") => `(tactic| (k_here; (with_reducible show wpAny _ _ (call (Value.ref _) _) _ _ _); kco_here; k_dflt (refine wpAny_call ?_; refine' kco_code ?k1 ?k2 ?k3 ?k4 ?k5 ?k6 ?_; (case k1 => k_in); (case k2 => k_inst); (case k3 => rfl); (case k4 => k_is); (case k5 => k_is); (case k6 => k_is); (try dsimp only); first
  | (refine' Spec.use (ring_spec _ _ _ _ _ _ _ _ _ _ ?zhr ?zhlr ?zhlnr ?zhn) ?zB ?zF ?zX ?zN ?zT ?zhk ?zhd ?zhu ?_; walk_at "@c"; (case zhlr => exact ListIn.mk' (by k_mem) (by first | assumption | exact .cons _ _ .nil | exact .cons _ _ (.cons _ _ .nil) | l_ints)); (case zhlnr => first | omega | (simp only [List.length_map, List.length_zipWith, List.length_cons, List.length_nil, List.length_replicate, List.length_append, List.length_set]; omega)))
  | (refine' Spec.use (ringi_spec _ _ _ _ _ _ _ _ _ _ ?zhr ?zh1n ?zhn) ?zB ?zF ?zX ?zN ?zT ?zhk ?zhd ?zhu ?_; walk_at "@c")); k_dflt (intro r' nw' h' tk' F' N' S' O'; refine PolyNew.elim O' ?_; clear O'; intro f' d' h1' k1' h2' k2' l' vs' k' c' e1' m1' m2' m3' i3' n3'; subst e1'); (try k_sweep)))
theorem walkOff6 : True := by
  w_top off
  trivial
set_option maxHeartbeats 8000000 in
theorem neg_spec (w mean mg mb) (news : Led) (rg : Addr) (v : Value) (as : List Int) (q : Int) (n : Nat) (hr : RingIn news rg q n) (hp : PolyIn news v rg as) (hlen : as.length = n) (hn : n ≤ 64) (hq : 0 < q) :
    Spec w mean mg mb 125 [v] 5 news (fun r nw => PolyNew news nw r rg (as.map fun x => Int.fmod (-x) q)) := by
  refine RingIn.elim hr ?_
  clear hr
  intro d h1 k1 h2 k2 tq tn c hr1 hr2
  refine PolyIn.elim hp ?_
  clear hp
  intro f df h3 k3 h4 k4 l vs k cf eP9 hp1 hp2 hp3 hi
  subst eP9
  unfold Spec
  k_fill
  intro dp un gd cn cs a ccd cl outer A₀ base h₀ L m s Q E B F X N T hk hd hu hret
  first | k_dflt ktr_enter | fail "enter"
  k_steps
  all_goals (refine hret _ _ _ _ (by k_asm) (by k_asm) (by intro p hp; k_mem) ?_)
  all_goals (refine ⟨_, _, _, _, _, _, _, _, _, _, rfl, by k_mem, by k_mem, by k_mem, ?_, ?_⟩)
  · (rename IntsAre _ (_ ++ List.replicate _ 0) => hI)
    simpa [hlen] using hI
  · exact fun p hp => (by assumption : ∀ p ∈ _ :: _ :: news, p.1 ≠ _) p (by k_mem)
section
local macro_rules | `(tactic| walk_at "binaryOp Mult int int") => `(tactic| (k_here; (with_reducible show wpAny _ _ (binaryOp Operator.Mult (Value.int _ _) (Value.int _ _)) _ _ _); k_dflt (refine PyProof.Rows.mul_int ?_ (mulOk_bd (by first | assumption | exact bd_all2 (by assumption) (by assumption)) (by first | assumption | exact bd_all2 (by assumption) (by assumption))))))
theorem walkOff7 : True := by
  w_top off
  trivial
set_option maxHeartbeats 4000000 in
theorem muli_spec (w mean mg mb) (news : Led) (rg : Addr) (v : Value) (as : List Int) (x : Int) (t : Tok) (q : Int) (n : Nat) (hr : RingIn news rg q n) (hp : PolyIn news v rg as) (hlen : as.length = n) (hn : n ≤ 64) (hq : 0 < q) (hb : ∀ a ∈ as, Bd a) (hx : Bd x) :
    Spec w mean mg mb 182 [v, .int x t] 5 news (fun r nw => PolyNew news nw r rg (as.map fun c => Int.fmod (c * x) q)) := by
  refine RingIn.elim hr ?_
  clear hr
  intro d h1 k1 h2 k2 tq tn c hr1 hr2
  refine PolyIn.elim hp ?_
  clear hp
  intro f df h3 k3 h4 k4 l vs k cf eP9 hp1 hp2 hp3 hi
  subst eP9
  unfold Spec
  k_fill
  intro dp un gd cn cs a ccd cl outer A₀ base h₀ L m s Q E B F X N T hk hd hu hret
  first | k_dflt ktr_enter | fail "enter"
  k_steps
  all_goals (refine hret _ _ _ _ (by k_asm) (by k_asm) (by intro p hp; k_mem) ?_)
  all_goals (refine ⟨_, _, _, _, _, _, _, _, _, _, rfl, by k_mem, by k_mem, by k_mem, ?_, ?_⟩)
  · (rename IntsAre _ (_ ++ List.replicate _ 0) => hI)
    first | simpa [hlen, hlen2] using hI | simpa [hlen] using hI
  · exact fun p hp => (by assumption : ∀ p ∈ _, p.1 ≠ _) p (by k_mem)
end
section
local macro_rules | `(tactic| walk_at "call ref") => `(tactic| (k_here; (with_reducible show wpAny _ _ (call (Value.ref 120) _) _ _ _); k_dflt (refine wpAny_call ?_; refine' Spec.use (school_spec _ _ _ _ _ _ _ _ _ _ _ _ ?zhr ?zhp ?zhpu ?zhlen ?zhlen2 ?zh1n ?zhn ?zhq ?zhb ?zhb2) ?zB ?zF ?zX ?zN ?zT ?zhk ?zhd ?zhu ?_; walk_at "@c"); k_dflt (walk_at "@ls"); walk_at "@e"))
section
local macro_rules | `(tactic| walk_at "no such step") => `(tactic| fail "no such step")
theorem walkOff8 : True := by
  w_top off
  trivial
set_option maxHeartbeats 4000000 in
theorem mul_spec (w mean mg mb) (news : Led) (rg : Addr) (v u : Value) (as bs : List Int) (q : Int) (n : Nat) (hr : RingIn news rg q n) (hp : PolyIn news v rg as) (hpu : PolyIn news u rg bs) (hlen : as.length = n) (hlen2 : bs.length = n) (h1n : 1 ≤ n) (hn : n ≤ 64) (hq : 0 < q) (hb : ∀ a ∈ as, Bd a) (hb2 : ∀ a ∈ bs, Bd a) :
    Spec w mean mg mb 182 [v, u] 5 news (fun r nw => PolyNew news nw r rg (mulq q n as bs)) := by
  refine RingIn.elim hr ?_
  clear hr
  intro d h1 k1 h2 k2 tq tn c hr1 hr2
  refine PolyIn.elim hp ?_
  clear hp
  intro f df h3 k3 h4 k4 l vs k cf eP9 hp1 hp2 hp3 hi
  subst eP9
  refine PolyIn.elim hpu ?_
  clear hpu
  intro f2 df2 h5 k5 h6 k6 l2 vs2 kk cf2 eP9 hp4 hp5 hp6 hi2
  subst eP9
  have hsb : (sbook as bs n).length = n := outer2_length as bs n (n - 1)
  unfold Spec
  k_fill
  intro dp un gd cn cs a ccd cl outer A₀ base h₀ L m s Q E B F X N T hk hd hu hret
  first | k_dflt ktr_enter | fail "enter"
  k_steps
  all_goals (refine hret _ _ _ _ (by k_asm) (by k_asm) (by intro p hp; k_mem) ?_)
  all_goals (refine ⟨_, _, _, _, _, _, _, _, _, _, rfl, by k_mem, by k_mem, by k_mem, ?_, ?_⟩)
  · (rename IntsAre _ (_ ++ List.replicate _ 0) => hI)
    simpa [hsb, mulq] using hI
  · exact fun p hp => (by assumption : ∀ p ∈ _, p.1 ≠ _) p (by k_mem)
end
end
theorem walkOff9 : True := by
  w_top off
  trivial
set_option maxHeartbeats 4000000 in
theorem zero_spec (w mean mg mb) (news : Led) (rg : Addr) (q : Int) (n : Nat) (hr : RingIn news rg q n) (h1n : 1 ≤ n) (hn : n ≤ 64) :
    Spec w mean mg mb 42 [.ref rg] 5 news (fun r nw => PolyNew news nw r rg (List.replicate n 0)) := by
  refine RingIn.elim hr ?_
  clear hr
  intro d h1 k1 h2 k2 tq tn c hr1 hr2
  unfold Spec
  k_fill
  intro dp un gd cn cs a ccd cl outer A₀ base h₀ L m s Q E B F X N T hk hd hu hret
  first | k_dflt ktr_enter | fail "enter"
  k_steps
  all_goals (refine hret _ _ _ _ (by k_asm) (by k_asm) (by intro p hp; k_mem) ?_)
  all_goals (refine ⟨_, _, _, _, _, _, _, _, _, _, rfl, by k_mem, by k_mem, by k_mem, ?_, ?_⟩)
  · (rename IntsAre _ (_ ++ List.replicate _ 0) => hI)
    have e : n = (n - 1) + 1 := by omega
    rw [e, List.replicate_succ]
    simpa using hI
  · exact fun p hp => (by assumption : ∀ p ∈ _, p.1 ≠ _) p (by k_mem)
section
local macro_rules | `(tactic| walk_at "eval Call") => `(tactic| (k_here; (with_reducible show wpAny _ _ (eval (Expr.Call (Expr.Name _ _) _ [] _) _) _ _ _); k_dflt (refine Call_ ?_)))
local macro_rules | `(tactic| walk_at "exec For Name Call cons nil") => `(tactic| (k_here; (rename Fr _ _ _ _ => lF'); (with_unfolding_all refine' For_invVF lF' ?k1 ?k2 ?_; (case k1 => exact rfl); (case k2 => exact rfl); k_whole)))
local macro_rules | `(tactic| walk_at "pyIter ref") => `(tactic| (k_here; refine halt_of ?_))
local macro_rules | `(tactic| walk_at "binaryOp Mult int int") => `(tactic| (k_here; (with_reducible show wpAny _ _ (binaryOp Operator.Mult (Value.int _ _) (Value.int _ _)) _ _ _); k_dflt (refine PyProof.Rows.mul_int ?_ (mulOk_bd (bd_getD (by assumption) _) (bd_getD (by assumption) _)))))
local macro_rules | `(tactic| walk_at "setItem ref int") => `(tactic| (k_here; (with_reducible show wpAny _ _ (setItem (Value.ref _) (Value.int _ _) (Value.int _ _)) _ _ _); k_dflt (refine' ksa_set ?k1 ?k2 ?k3 ?k4 ?k5 ?k6 ?k7 ?_; (case k1 => k_asm); (case k2 => k_asm); (case k3 => k_upd); (case k4 => with_reducible assumption); (case k5 => ksa_idx); (case k6 => ksa_idx); (case k7 => ksa_idx); k_whole); intro h' F' N' hi' hl' hs'; clear hl' hs'; (try k_sweep)))
local macro_rules | `(tactic| walk_at "call ref") => `(tactic| (k_here; (with_reducible show wpAny _ _ (call (Value.ref 250) _) _ _ _); k_dflt (refine wpAny_call ?_; refine' Spec.use (rests_spec _ _ _ _ _ _ _ _ _ ?zhl ?zhlen ?zhq) ?zB ?zF ?zX ?zN ?zT ?zhk ?zhd ?zhu ?_; walk_at "@c"); k_dflt (walk_at "@ln"); walk_at "@e"))
theorem walkOff10 : True := by
  w_top off
  trivial
/-- the law's own product, loop by loop -/
def lin (a b : List Int) (n j : Nat) : Nat → List Int → List Int
  | 0, c => c
  | k + 1, c => let c' := lin a b n j k c
    if j + k < n then c'.set (j + k) (c'.getD (j + k) 0 + a.getD j 0 * b.getD k 0) else c'.set (j + k - n) (c'.getD (j + k - n) 0 - a.getD j 0 * b.getD k 0)
def lout (a b : List Int) (n : Nat) : Nat → List Int
  | 0 => List.replicate n 0
  | j + 1 => lin a b n j n (lout a b n j)
theorem lin_length (a b : List Int) (n j : Nat) : ∀ k c, (lin a b n j k c).length = c.length
  | 0, _ => rfl
  | k + 1, c => by
    rw [lin]
    split <;> rw [List.length_set, lin_length]
theorem lout_length (a b : List Int) (n : Nat) : ∀ j, (lout a b n j).length = n
  | 0 => by rw [lout, List.length_replicate]
  | j + 1 => by rw [lout, lin_length, lout_length]
def lprod (q : Int) (n : Nat) (a b : List Int) : List Int := (lout a b n n).map fun c => Int.fmod c q
set_option maxHeartbeats 4000000 in
theorem prod_spec (w mean mg mb) (news : Led) (v u : Value) (as bs : List Int) (q : Int) (t : Tok) (n : Nat) (hp : ListIn news v as) (hpu : ListIn news u bs) (hlen : as.length = n) (hlen2 : bs.length = n) (hn : n ≤ 64) (hq : 0 < q) (hb : ∀ a ∈ as, Bd a) (hb2 : ∀ a ∈ bs, Bd a) :
    Spec w mean mg mb 257 [v, u, .int q t] 4 news (fun r nw => ListNew news nw r (lprod q n as bs)) := by
  obtain ⟨l, vs, k, rfl, hm, hi⟩ := hp
  obtain ⟨l2, vs2, kk2, rfl, hm2, hi2⟩ := hpu
  unfold Spec
  k_fill
  intro dp un gd cn cs a ccd cl outer A₀ base h₀ L m s Q E B F X N T hk hd hu hret
  first | k_dflt ktr_enter | fail "enter"
  k_steps
  unfold Halt
  rename News _ _ _ _ => N9
  refine' loop_rl (n := n) [Str.ofString "k"] (lout as bs n) ?hh ?hr ?hbd ?hnn ?F N9 ?hD ?hi (fun i u h tk vs k t zn hin hI hS hoff F' N' => ?turn) (fun u h tk vs k hI F' N' => ?done)
  case hh => rfl
  case hr => assumption
  case hbd => omega
  case hnn => omega
  case F => k_asm
  case hD => k_all
  case hi =>
    rw [lout, ← hlen]
    exact ints_zeros _ _
  case turn =>
    k_steps
    unfold Halt
    refine' loop_rl (n := n) [] (fun j => lin as bs n i j (lout as bs n i)) ?hh ?hr ?hbd ?hnn ?F ?N ?hD ?hi (fun j u2 h2 tk2 vs2 kk2 t2 zn2 hin2 hI2 hS2 hoff2 F2 N2 => ?turn2) (fun u2 h2 tk2 vs2 kk2 hI2 F2 N2 => ?done2)
    case hh => rfl
    case hr => assumption
    case hbd => omega
    case hnn => omega
    case F => k_asm
    case N => k_asm
    case hD => exact hoff
    case hi => exact hI
    case turn2 =>
      have hL2 : (lin as bs n i j (lout as bs n i)).length = n := by rw [lin_length, lout_length]
      k_steps
      all_goals rename IntsAre (List.set vs2 _ _) _ => hS9
      all_goals (refine LEnd.intro (by k_asm) (by k_asm) (by k_mem) (by intro p hp; k_mem) (Eq.mp (congrArg (IntsAre _) ?_) hS9) (by intro z h1 h2; simp [h1]))
      · have c9 : i + j < n := by omega
        have e1 : ((0 : Int) + (i : Int) + (0 + (j : Int))).toNat = i + j := by omega
        have e2 : ((0 : Int) + (i : Int)).toNat = i := by omega
        have e3 : ((0 : Int) + (j : Int)).toNat = j := by omega
        rw [e1, e2, e3]
        show _ = lin as bs n i (j + 1) _
        rw [lin, if_pos c9]
      · have c9 : ¬ i + j < n := by omega
        have e1 : ((0 : Int) + (i : Int) + (0 + (j : Int)) - (as.length : Int)).toNat = i + j - n := by omega
        have e2 : ((0 : Int) + (i : Int)).toNat = i := by omega
        have e3 : ((0 : Int) + (j : Int)).toNat = j := by omega
        rw [e1, e2, e3]
        show _ = lin as bs n i (j + 1) _
        rw [lin, if_neg c9]
    case done2 =>
      k_steps
      refine LEnd.intro (by k_asm) (by k_asm) (by k_mem) (by intro p hp; k_mem) ?hI ?hr
      case hr => (intro z h1 h2; have h3 : z ≠ Str.ofString "k" := (by intro e; subst e; simp at h2); simp [h1, h3])
      case hI => exact hI2
  case done =>
    have hLo : (lout as bs n n).length = n := lout_length as bs n n
    k_steps
    exact hret _ _ _ _ (by k_asm) (by k_asm) (by intro p hp; k_mem) ⟨_, _, _, rfl, by k_mem, by assumption, fun p hp => (by assumption : ∀ p ∈ _ :: _ :: news, p.1 ≠ _) p (by k_mem)⟩
end
theorem walkOff11 : True := by
  w_top off
  trivial
set_option maxHeartbeats 4000000 in
theorem cell_spec (w mean mg mb) (news : Led) (sl : Addr) (svs : List Value) (sns : List Int) (hsi : IntsAre svs sns) (hsb : ∀ x ∈ sns, Builtin.Int.intBits x ≤ 2 ^ 20) (hsl : sns.length ≤ 63) (k : Int) (t : Tok) (hk0 : 0 ≤ k) (hk1 : k ≤ 1000000) :
    SpecS w mean mg mb sl svs 231 [.ref sl, .int k t] 2 news (fun r nw => ∃ x t, r = .int x t ∧ 0 ≤ x ∧ Builtin.Int.intBits x ≤ 2 ^ 20) := by
  unfold SpecS
  k_fill
  intro dp un gd cn cs a ccd cl outer A₀ base h₀ L m s Q E B hS F X N T hk hd hu hret
  first | k_dflt ktr_enter | fail "enter"
  k_steps
  · refine hret _ _ _ _ (by k_asm) (by k_asm) (by intro p hp; k_mem) ⟨_, _, rfl, by split <;> omega, ?_⟩
    split
    · rw [bits_neg]; exact bits_getD hsb _
    · exact bits_getD hsb _
  · exact hret _ _ _ _ (by k_asm) (by k_asm) (by intro p hp; k_mem) ⟨_, _, rfl, by omega, bits_small (by omega) (by omega)⟩
section
local macro_rules | `(tactic| walk_at "exec Assign cons ListComp") => `(tactic| (k_here; k_dflt (refine Assign_ListComp_Z (by k_asm) (by rfl) (by with_unfolding_all rfl) (by with_unfolding_all rfl) (by decide) (by rfl) (by decide) (by rfl) (by rfl) (by decide) (by rfl) (by rfl) ?_)))
local macro_rules | `(tactic| walk_at "call type:zip") => `(tactic| (k_here; k_dflt (refine' zsrc_zip _ ?hh ?F ?N ?m1 ?m2 ?i1 ?i2 ?hl ?hs (fun a' b' ta' tb' C' oC' D' m' vs' h' tk' zn' E' ha' hb' hC' hx' hx2' F' S' N' => ?_) (fun h' => ?_); (case hh => exact rfl); (case F => k_asm); (case N => k_asm); (case m1 => k_mem); (case m2 => k_mem); (case i1 => l_ints); (case i2 => l_ints); (case hl => first | omega | (simp only [List.length_map, List.length_append, List.length_replicate]; omega)); (case hs => rw [PySem.sizeLine_eq]; first | omega | (simp only [List.length_map, List.length_append, List.length_replicate]; omega)); kcf_last)))
local macro_rules | `(tactic| walk_at "ZEnd") => `(tactic| (k_here; k_dflt (refine' ZEnd.intro ?e ?F ?N ?S; (case e => rfl); (case F => k_asm); (case N => k_asm); (case S => intro p hp; k_mem))))
local macro_rules | `(tactic| walk_at "ZFinA") => `(tactic| (k_here; k_dflt (unfold ZFinA; intro D' h' tk' vs' F' N' n' I'); (try k_sweep)))
theorem walkOff12 : True := by
  w_top off
  trivial
set_option maxHeartbeats 4000000 in
theorem add_spec (w mean mg mb) (news : Led) (rg : Addr) (v u : Value) (as bs : List Int) (q : Int) (n : Nat) (hr : RingIn news rg q n) (hp : PolyIn news v rg as) (hpu : PolyIn news u rg bs) (hlen : as.length = n) (hlen2 : bs.length = n) (hn : n ≤ 64) (hq : 0 < q) :
    Spec w mean mg mb 137 [v, u] 6 news (fun r nw => PolyNew news nw r rg (List.zipWith (fun x y => Int.fmod (x + y) q) as bs)) := by
  refine RingIn.elim hr ?_
  clear hr
  intro d h1 k1 h2 k2 tq tn c hr1 hr2
  refine PolyIn.elim hp ?_
  clear hp
  intro f df h3 k3 h4 k4 l vs k cf eP9 hp1 hp2 hp3 hi
  subst eP9
  refine PolyIn.elim hpu ?_
  clear hpu
  intro f2 df2 h5 k5 h6 k6 l2 vs2 kk cf2 eP9 hp4 hp5 hp6 hi2
  subst eP9
  unfold Spec
  k_fill
  intro dp un gd cn cs a ccd cl outer A₀ base h₀ L m s Q E B F X N T hk hd hu hret
  first | k_dflt ktr_enter | fail "enter"
  k_steps
  all_goals (refine hret _ _ _ _ (by k_asm) (by k_asm) (by intro p hp; k_mem) ?_)
  all_goals (refine ⟨_, _, _, _, _, _, _, _, _, _, rfl, by k_mem, by k_mem, by k_mem, ?_, ?_⟩)
  · (rename IntsAre _ (_ ++ List.replicate _ 0) => hI)
    first | simpa [hlen, hlen2] using hI | simpa [hlen] using hI
  · exact fun p hp => (by assumption : ∀ p ∈ _, p.1 ≠ _) p (by k_mem)
theorem walkOff13 : True := by
  w_top off
  trivial
set_option maxHeartbeats 4000000 in
theorem sub_spec (w mean mg mb) (news : Led) (rg : Addr) (v u : Value) (as bs : List Int) (q : Int) (n : Nat) (hr : RingIn news rg q n) (hp : PolyIn news v rg as) (hpu : PolyIn news u rg bs) (hlen : as.length = n) (hlen2 : bs.length = n) (hn : n ≤ 64) (hq : 0 < q) :
    Spec w mean mg mb 163 [v, u] 6 news (fun r nw => PolyNew news nw r rg (List.zipWith (fun x y => Int.fmod (x - y) q) as bs)) := by
  refine RingIn.elim hr ?_
  clear hr
  intro d h1 k1 h2 k2 tq tn c hr1 hr2
  refine PolyIn.elim hp ?_
  clear hp
  intro f df h3 k3 h4 k4 l vs k cf eP9 hp1 hp2 hp3 hi
  subst eP9
  refine PolyIn.elim hpu ?_
  clear hpu
  intro f2 df2 h5 k5 h6 k6 l2 vs2 kk cf2 eP9 hp4 hp5 hp6 hi2
  subst eP9
  unfold Spec
  k_fill
  intro dp un gd cn cs a ccd cl outer A₀ base h₀ L m s Q E B F X N T hk hd hu hret
  first | k_dflt ktr_enter | fail "enter"
  k_steps
  all_goals (refine hret _ _ _ _ (by k_asm) (by k_asm) (by intro p hp; k_mem) ?_)
  all_goals (refine ⟨_, _, _, _, _, _, _, _, _, _, rfl, by k_mem, by k_mem, by k_mem, ?_, ?_⟩)
  · (rename IntsAre _ (_ ++ List.replicate _ 0) => hI)
    first | simpa [hlen, hlen2] using hI | simpa [hlen] using hI
  · exact fun p hp => (by assumption : ∀ p ∈ _, p.1 ≠ _) p (by k_mem)
end
section
local macro_rules | `(tactic| walk_at "getMethod ref") => `(tactic| (k_here; (with_reducible show wpAny _ _ (getMethod (Value.ref _) (PySem.Str.ofString "copy") _) _ _ _); k_dflt (refine' kl_method ?N ?m PySem.F.slot_list_copy PySem.F.type_list_copy ?_; (case N => k_asm); (case m => k_mem))))
local macro_rules | `(tactic| walk_at "call builtin:list.copy") => `(tactic| (k_here; k_dflt (refine' copy_L ?F ?N ?m ?_ ?hsz; (case F => k_asm); (case N => k_asm); (case m => k_mem); (case hsz => (have hI := IntsAre.length (by assumption : IntsAre _ _)); rw [PySem.sizeLine_eq]; (try simp only [List.length_cons] at hI); omega)); intro l' h' F' N' l1; (try k_lt l1); (try k_sweep)))
theorem walkOff14 : True := by
  w_top off
  trivial
set_option maxHeartbeats 2000000 in
theorem addi_spec (w mean mg mb) (news : Led) (rg : Addr) (v : Value) (a0 : Int) (as : List Int) (x : Int) (t : Tok) (q : Int) (n : Nat) (hr : RingIn news rg q n) (hp : PolyIn news v rg (a0 :: as)) (hlen : as.length + 1 = n) (hn : n ≤ 64) (hq : 0 < q) :
    Spec w mean mg mb 137 [v, .int x t] 6 news (fun r nw => PolyNew news nw r rg (Int.fmod (a0 + x) q :: as)) := by
  refine RingIn.elim hr ?_
  clear hr
  intro d h1 k1 h2 k2 tq tn c hr1 hr2
  refine PolyIn.elim hp ?_
  clear hp
  intro f df h3 k3 h4 k4 l vs k cf eP9 hp1 hp2 hp3 hi
  subst eP9
  unfold Spec
  k_fill
  intro dp un gd cn cs a ccd cl outer A₀ base h₀ L m s Q E B F X N T hk hd hu hret
  first | k_dflt ktr_enter | fail "enter"
  k_steps
  all_goals (refine hret _ _ _ _ (by k_asm) (by k_asm) (by intro p hp; k_mem) ?_)
  all_goals (refine ⟨_, _, _, _, _, _, _, _, _, _, rfl, by k_mem, by k_mem, by k_mem, ?_, ?_⟩)
  · (rename IntsAre _ (_ ++ List.replicate _ 0) => hI)
    simpa [← hlen] using hI
  · exact fun p hp => (by assumption : ∀ p ∈ _, p.1 ≠ _) p (by k_mem)
end
section
local macro_rules | `(tactic| walk_at "call ref") => `(tactic| (k_here; (with_reducible show wpAny _ _ (call (Value.ref 182) [Value.ref _, Value.ref _]) _ _ _); k_dflt (refine wpAny_call ?_; refine' Spec.use (mul_spec _ _ _ _ _ _ _ _ _ _ _ _ ?zhr ?zhp ?zhpu ?zhlen ?zhlen2 ?zh1n ?zhn ?zhq ?zhb ?zhb2) ?zB ?zF ?zX ?zN ?zT ?zhk ?zhd ?zhu ?_; walk_at "@c"); k_dflt (walk_at "@pn"); walk_at "@e"))
local macro_rules | `(tactic| walk_at "exec While") => `(tactic| (k_here; refine halt_of ?_))
section
local macro_rules | `(tactic| walk_at "no such step") => `(tactic| fail "no such step")
theorem walkOff15 : True := by
  w_top off
  trivial
/-- the power's loop, as the text has it -/
def powL (q : Int) (n : Nat) (g f : List Int) (e : Nat) : List Int :=
  if h : e = 0 then g else powL q n (if e % 2 = 1 then mulq q n g f else g) (mulq q n f f) (e / 2)
termination_by e
decreasing_by omega
theorem powL_zero (q : Int) (n : Nat) (g f : List Int) : powL q n g f 0 = g := by rw [powL]; simp
theorem powL_pos (q : Int) (n : Nat) (g f : List Int) {e : Nat} (h : 0 < e) : powL q n g f e = powL q n (if e % 2 = 1 then mulq q n g f else g) (mulq q n f f) (e / 2) := by
  rw [powL]; simp [Nat.ne_of_gt h]
theorem sub_refl (a : Led) : Sub a a := fun _ h => h
theorem PolyIn.mono {a b : Led} {v : Value} {rg : Addr} {cs : List Int} (h : PolyIn a v rg cs) (s : Sub a b) : PolyIn b v rg cs := by
  obtain ⟨f, d, h1, k1, h2, k2, l, vs, k, c, e, m1, m2, m3, i⟩ := h
  exact ⟨f, d, h1, k1, h2, k2, l, vs, k, c, e, s _ m1, s _ m2, s _ m3, i⟩
theorem polyOf {nw : Led} {f d rg l : Addr} {h1 h2 : Int} {k1 k2 : Tok} {vs : List Value} {k c : Nat} {cs : List Int} (i : IntsAre vs cs) (m3 : (l, W.listOf (List.toArray vs) k) ∈ nw)
    (m2 : (d, W.dictOf [⟨h1, .str (Str.ofString "parent") k1, .ref rg⟩, ⟨h2, .str (Str.ofString "coeffs") k2, .ref l⟩] c) ∈ nw) (m1 : (f, instObj 220 d) ∈ nw) : PolyIn nw (.ref f) rg cs :=
  ⟨f, d, h1, k1, h2, k2, l, vs, k, c, rfl, m1, m2, m3, i⟩
theorem bd_mulq {q : Int} (h : 0 < q) (h2 : q ≤ 65536) (n : Nat) (a b : List Int) : ∀ x ∈ mulq q n a b, Bd x := bd_mapf h h2 (fun c => c) _
theorem mulq_length (q : Int) (n : Nat) (a b : List Int) : (mulq q n a b).length = n := by rw [mulq, List.length_map, sbook, outer2_length]
theorem bd_one (n : Nat) : ∀ x ∈ (1 : Int) :: List.replicate n 0, Bd x := fun x hx => by
  rcases List.mem_cons.mp hx with rfl | hx
  · exact bd_small (by decide) (by decide)
  · rw [(List.mem_replicate.mp hx).2]; exact bd_small (by decide) (by decide)
/-- what holds at the head of the power's loop -/
structure PowJ (news : Led) (rg : Addr) (q : Int) (n : Nat) (m₀ : Str → Option Value) (fin : List Int) (k : Nat) (m : Str → Option Value) (nw : Led) : Prop where
  ex : ∃ (e : Nat) (t : Tok) (fv gv : Value) (fs gs : List Int), k = e ∧ e < 2 ^ 62 ∧ (∀ z, m z = if z = Str.ofString "n" then some (.int (e : Int) t) else if z = Str.ofString "f" then some fv else if z = Str.ofString "g" then some gv else m₀ z) ∧
    PolyIn nw fv rg fs ∧ PolyIn nw gv rg gs ∧ fs.length = n ∧ gs.length = n ∧ (∀ a ∈ fs, Bd a) ∧ (∀ a ∈ gs, Bd a) ∧ Sub news nw ∧ powL q n gs fs e = fin
set_option maxHeartbeats 4000000 in
theorem pow_spec (w mean mg mb) (news : Led) (rg : Addr) (v : Value) (as : List Int) (q : Int) (n e : Nat) (t : Tok) (hr : RingIn news rg q n) (hp : PolyIn news v rg as) (hlen : as.length = n) (h1n : 1 ≤ n) (hn : n ≤ 64) (hq : 0 < q) (hq2 : q ≤ 65536) (hb : ∀ a ∈ as, Bd a) (he : e < 2 ^ 62) :
    Spec w mean mg mb 203 [v, .int (e : Int) t] 8 news (fun r nw => PolyIn nw r rg (powL q n (1 :: List.replicate (n - 1) 0) as e)) := by
  refine RingIn.elim hr ?_
  clear hr
  intro d h1 k1 h2 k2 tq tn c hr1 hr2
  refine PolyIn.elim hp ?_
  clear hp
  intro f df h3 k3 h4 k4 l vs k cf eP9 hp1 hp2 hp3 hi
  subst eP9
  unfold Spec
  k_fill
  intro dp un gd cn cs a ccd cl outer A₀ base h₀ L m s Q E B F X N T hk hd hu hret
  first | k_dflt ktr_enter | fail "enter"
  k_steps
  all_goals (try k_data)
  unfold Halt
  rename Fr _ _ _ _ => F9
  rename News _ _ _ _ => N9
  refine' While_inv2 (PowJ news rg q n _ (powL q n (1 :: List.replicate (n - 1) 0) as e)) (n₀ := e) F9 N9 ?hJ (fun k9 m1 nw1 h1 tk1 F1 N1 J1 => ?turn) ?hE
  case hE => passes_own
  case hJ =>
    refine ⟨e, t, .ref f, _, as, 1 :: List.replicate (n - 1) 0, rfl, he, ?_, ⟨_, _, _, _, _, _, _, _, _, _, rfl, by k_mem, by k_mem, by k_mem, by assumption⟩, ⟨_, _, _, _, _, _, _, _, _, _, rfl, by k_mem, by k_mem, by k_mem, by assumption⟩, hlen, by simp; omega, hb, bd_one _, by assumption, rfl⟩
    intro z
    split
    · next h => subst h; rfl
    split
    · next h => subst h; rfl
    split
    · next h => subst h; rfl
    · rfl
  case turn =>
    obtain ⟨e1, t1, fv, gv, fs, gs, rfl, he1, hm1, hpf, hpg, hlf, hlg, hbf, hbg, hS1, hfin⟩ := J1.ex
    have em := funext hm1
    subst em
    refine PolyIn.elim hpf ?_
    clear hpf
    intro f8 d8 h81 k81 h82 k82 l8 vs8 kk8 c8 eP9 m81 m82 m83 i8
    subst eP9
    refine PolyIn.elim hpg ?_
    clear hpg
    intro f7 d7 h71 k71 h72 k72 l7 vs7 kk7 c7 eP9 m71 m72 m73 i7
    subst eP9
    k_steps
    · rename Int.fmod (k9 : Int) 2 = 1 => hp9
      rename 0 < (k9 : Int) => hp8
      rw [Int.fmod_eq_emod_of_nonneg _ (by decide)] at hp9
      have hp7 : k9 % 2 = 1 := by omega
      rename IntsAre _ (mulq q n fs fs) => iF
      rename IntsAre _ (mulq q n gs fs) => iG
      refine' ⟨_, _, _, _, k9 / 2, rfl, by k_asm, by k_asm, by omega, ⟨k9 / 2, _, .ref _, .ref _, mulq q n fs fs, mulq q n gs fs, rfl, by omega, ?hm0, polyOf iF (by k_mem) (by k_mem) (by k_mem), polyOf iG (by k_mem) (by k_mem) (by k_mem), mulq_length q n fs fs, mulq_length q n gs fs, bd_mulq hq hq2 n fs fs, bd_mulq hq hq2 n gs fs, (by intro p hp; k_mem), ?fin0⟩⟩
      case hm0 =>
        have e9 : Int.fdiv (k9 : Int) 2 = ((k9 / 2 : Nat) : Int) := by rw [Int.fdiv_eq_ediv_of_nonneg _ (by decide)]; rfl
        rw [e9]
        intro z
        by_cases z1 : z = Str.ofString "n"
        · subst z1; rfl
        by_cases z2 : z = Str.ofString "f"
        · subst z2; rfl
        by_cases z3 : z = Str.ofString "g"
        · subst z3; rfl
        · simp only [if_neg z1, if_neg z2, if_neg z3]
      case fin0 => rw [← hfin, powL_pos q n gs fs (by omega : 0 < k9), if_pos hp7]
    · rename Int.fmod (k9 : Int) 2 ≠ 1 => hp9
      rename 0 < (k9 : Int) => hp8
      rw [Int.fmod_eq_emod_of_nonneg _ (by decide)] at hp9
      have hp7 : ¬ k9 % 2 = 1 := by omega
      rename IntsAre _ (mulq q n fs fs) => iF
      refine' ⟨_, _, _, _, k9 / 2, rfl, by k_asm, by k_asm, by omega, ⟨k9 / 2, _, .ref _, .ref _, mulq q n fs fs, gs, rfl, by omega, ?hm1, polyOf iF (by k_mem) (by k_mem) (by k_mem), polyOf i7 (by k_mem) (by k_mem) (by k_mem), mulq_length q n fs fs, hlg, bd_mulq hq hq2 n fs fs, hbg, (by intro p hp; k_mem), ?fin1⟩⟩
      case hm1 =>
        have e9 : Int.fdiv (k9 : Int) 2 = ((k9 / 2 : Nat) : Int) := by rw [Int.fdiv_eq_ediv_of_nonneg _ (by decide)]; rfl
        rw [e9]
        intro z
        by_cases z1 : z = Str.ofString "n"
        · subst z1; rfl
        by_cases z2 : z = Str.ofString "f"
        · subst z2; rfl
        by_cases z3 : z = Str.ofString "g"
        · subst z3; rfl
        · simp only [if_neg z1, if_neg z2, if_neg z3]
      case fin1 => rw [← hfin, powL_pos q n gs fs (by omega : 0 < k9), if_neg hp7]
    · refine hret _ _ _ _ (by k_asm) (by k_asm) hS1 ?_
      have e0 : k9 = 0 := by omega
      rw [← hfin, e0, powL_zero]
      exact ⟨_, _, _, _, _, _, _, _, _, _, rfl, by k_mem, by k_mem, by k_mem, by assumption⟩
theorem pow_specX (w mean mg mb) (news : Led) (rg : Addr) (v : Value) (as : List Int) (q : Int) (n e : Nat) (x : Int) (t : Tok) (hx : x = (e : Int)) (hr : RingIn news rg q n) (hp : PolyIn news v rg as) (hlen : as.length = n) (h1n : 1 ≤ n) (hn : n ≤ 64) (hq : 0 < q) (hq2 : q ≤ 65536) (hb : ∀ a ∈ as, Bd a) (he : e < 2 ^ 62) :
    Spec w mean mg mb 203 [v, .int x t] 8 news (fun r nw => PolyIn nw r rg (powL q n (1 :: List.replicate (n - 1) 0) as e)) := by
  subst hx; exact pow_spec w mean mg mb news rg v as q n e t hr hp hlen h1n hn hq hq2 hb he
theorem powL_ind {P : List Int → Prop} {q : Int} {n : Nat} (hm : ∀ a b, P (mulq q n a b)) : ∀ (e : Nat) (g f : List Int), P g → P (powL q n g f e) := by
  intro e
  induction e using Nat.strongRecOn with
  | ind e ih =>
    intro g f hg
    by_cases h : e = 0
    · subst h; rw [powL_zero]; exact hg
    · rw [powL_pos q n g f (by omega)]
      refine ih (e / 2) (by omega) _ _ ?_
      split
      · exact hm _ _
      · exact hg
theorem powL_len (q : Int) {n : Nat} (h1n : 1 ≤ n) {as : List Int} (_hlen : as.length = n) (e : Nat) : (powL q n (1 :: List.replicate (n - 1) 0) as e).length = n :=
  powL_ind (P := fun l => l.length = n) (fun a b => mulq_length q n a b) e _ _ (by simp; omega)
theorem bd_powL {q : Int} {n : Nat} (hq : 0 < q) (hq2 : q ≤ 65536) (_h1n : 1 ≤ n) {as : List Int} (_hb : ∀ a ∈ as, Bd a) (e : Nat) : ∀ x ∈ powL q n (1 :: List.replicate (n - 1) 0) as e, Bd x :=
  powL_ind (P := fun l => ∀ x ∈ l, Bd x) (fun a b => bd_mulq hq hq2 n a b) e _ _ (bd_one _)
end
end
section
local macro_rules | `(tactic| walk_at "eval Call") => `(tactic| (k_here; (with_reducible show wpAny _ _ (eval (Expr.Call (Expr.Name _ _) _ [] _) _) _ _ _); k_dflt (refine Call_ ?_)))
local macro_rules | `(tactic| walk_at "exec For Name Call cons nil") => `(tactic| (k_here; (rename Fr _ _ _ _ => lF'); (with_unfolding_all refine' For_invVF lF' ?k1 ?k2 ?_; (case k1 => exact rfl); (case k2 => exact rfl); k_whole)))
local macro_rules | `(tactic| walk_at "pyIter ref") => `(tactic| (k_here; refine halt_of ?_))
local macro_rules | `(tactic| walk_at "call ref") => `(tactic| (k_here; (with_reducible show wpAny _ _ (call (Value.ref 250) _) _ _ _); k_dflt (refine wpAny_call ?_; refine' Spec.use (rests_spec _ _ _ _ _ _ _ _ _ ?zhl ?zhlen ?zhq) ?zB ?zF ?zX ?zN ?zT ?zhk ?zhd ?zhu ?_; walk_at "@c"); k_dflt (walk_at "@ln"); walk_at "@e"))
local macro_rules | `(tactic| walk_at "call ref") => `(tactic| (k_here; (with_reducible show wpAny _ _ (call (Value.ref 257) _) _ _ _); k_dflt (refine wpAny_call ?_; refine' Spec.use (prod_spec _ _ _ _ _ _ _ _ _ _ _ _ ?zhp ?zhpu ?zhlen ?zhlen2 ?zhn ?zhq ?zhb ?zhb2) ?zB ?zF ?zX ?zN ?zT ?zhk ?zhd ?zhu ?_; walk_at "@c"); k_dflt (walk_at "@ln"); walk_at "@e"))
theorem walkOff16 : True := by
  w_top off
  trivial
/-- the law's own power -/
def lpow (q : Int) (n : Nat) (row : List Int) : Nat → List Int
  | 0 => (1 :: List.replicate (n - 1) 0).map fun c => Int.fmod c q
  | k + 1 => lprod q n (lpow q n row k) row
theorem lprod_length (q : Int) (n : Nat) (a b : List Int) : (lprod q n a b).length = n := by rw [lprod, List.length_map, lout_length]
theorem lpow_length (q : Int) (n : Nat) (h : 1 ≤ n) (row : List Int) : ∀ k, (lpow q n row k).length = n
  | 0 => by rw [lpow, List.length_map, List.length_cons, List.length_replicate]; omega
  | k + 1 => by rw [lpow, lprod_length]
theorem bd_lprod {q : Int} (h : 0 < q) (h2 : q ≤ 65536) (n : Nat) (a b : List Int) : ∀ x ∈ lprod q n a b, Bd x := bd_mapf h h2 (fun c => c) _
theorem bd_lpow {q : Int} (h : 0 < q) (h2 : q ≤ 65536) (n : Nat) (row : List Int) : ∀ k, ∀ x ∈ lpow q n row k, Bd x
  | 0 => bd_mapf h h2 (fun c => c) _
  | k + 1 => bd_lprod h h2 n _ row
def PwR (news : Led) (q : Int) (n : Nat) (as : List Int) (m₀ : Str → Option Value) (i : Nat) (m : Str → Option Value) (nw : Led) : Prop :=
  ∃ rv, (∀ z, z ≠ Str.ofString "k" → m z = (fun z => if z = Str.ofString "result" then some rv else m₀ z) z) ∧ ListIn nw rv (lpow q n as i) ∧ Sub news nw
set_option maxHeartbeats 4000000 in
theorem power_spec (w mean mg mb) (news : Led) (v : Value) (as : List Int) (q : Int) (t : Tok) (n many : Nat) (t2 : Tok) (hp : ListIn news v as) (hlen : as.length = n) (h1n : 1 ≤ n) (hn : n ≤ 64) (hq : 0 < q) (hq2 : q ≤ 65536) (hb : ∀ a ∈ as, Bd a) (hm9 : many ≤ 1000) :
    Spec w mean mg mb 264 [v, .int (many : Int) t2, .int q t] 6 news (fun r nw => ListIn nw r (lpow q n as many)) := by
  obtain ⟨l, vs, kk, rfl, hm, hi⟩ := hp
  unfold Spec
  k_fill
  intro dp un gd cn cs a ccd cl outer A₀ base h₀ L m s Q E B F X N T hk hd hu hret
  first | k_dflt ktr_enter | fail "enter"
  k_steps
  unfold Halt
  rename IntsAre _ (List.map _ _) => i9
  rename Fr _ _ _ _ => F9
  rename News _ _ _ _ => N9
  refine' loop_newM (n := many) (PwR news q n as) ?hh ?hr ?hbd ?hnn F9 N9 ?h0 ?hmono ?hclean (fun i m1 h1 tk1 t1 nw1 hin hR F1 N1 => ?turn) (fun m1 h1 tk1 nw1 hR F1 N1 => ?done)
  case hh => rfl
  case hr => assumption
  case hbd => omega
  case hnn => omega
  case h0 =>
    refine ⟨_, (by intro z _; dsimp only; split <;> rfl), ⟨_, _, _, rfl, by k_mem, Eq.mp (congrArg (IntsAre _) ?_) i9⟩, (by intro p hp; k_mem)⟩
    rw [lpow, List.singleton_append]
    congr 2
    rw [show ((as.length : Int) - 1).toNat = n - 1 by omega]
    clear i9
    generalize n - 1 = k
    induction k with
    | zero => rfl
    | succ k ih => rw [List.replicate_succ, List.replicate_succ, List.flatten_cons, ih]; rfl
  case hmono =>
    rintro i m a b ⟨rv, h1, h2, h3⟩ hs
    exact ⟨rv, h1, h2.mono hs, fun p hp => hs p (h3 p hp)⟩
  case hclean =>
    rintro i m nw I ⟨rv, h1, h2, h3⟩ hI hn
    exact ⟨rv, h1, h2.off hI, fun p hp => mem_offI (h3 p hp) (hn p (by k_mem))⟩
  case turn =>
    obtain ⟨rv, hm1, ⟨l1, vs1, kk1, rfl, mm1, ii1⟩, hS1⟩ := hR
    rw [mapR hm1] at F1
    have hL1 : (lpow q n as i).length = n := lpow_length q n h1n as i
    have hB1 := bd_lpow hq hq2 n as i
    k_steps
    refine NEnd.intro (by k_asm) (by k_asm) (by k_asm) (?x : PwR _ _ _ _ _ _ _ _)
    refine ⟨_, ?_, ⟨_, _, _, rfl, by k_mem, by assumption⟩, (by intro p hp; k_mem)⟩
    intro z h1
    dsimp only
    by_cases h2 : z = Str.ofString "result"
    · simp only [if_pos h2]
    · simp only [if_neg h1, if_neg h2]
  case done =>
    obtain ⟨rv, hm1, ⟨l1, vs1, kk1, rfl, mm1, ii1⟩, hS1⟩ := hR
    replace F1 := frK F1 hm1
    dsimp only at F1 ⊢
    k_steps
    exact hret _ _ _ _ (by k_asm) (by k_asm) hS1 ⟨_, _, _, rfl, by k_mem, by assumption⟩
theorem power_specX (w mean mg mb) (news : Led) (v : Value) (as : List Int) (q : Int) (t : Tok) (n many : Nat) (x : Int) (t2 : Tok) (hx : x = (many : Int)) (hp : ListIn news v as) (hlen : as.length = n) (h1n : 1 ≤ n) (hn : n ≤ 64) (hq : 0 < q) (hq2 : q ≤ 65536) (hb : ∀ a ∈ as, Bd a) (hm9 : many ≤ 1000) :
    Spec w mean mg mb 264 [v, .int x t2, .int q t] 6 news (fun r nw => ListIn nw r (lpow q n as many)) := by
  subst hx; exact power_spec w mean mg mb news v as q t n many t2 hp hlen h1n hn hq hq2 hb hm9
end
section
local macro_rules | `(tactic| walk_at "eval Call") => `(tactic| (k_here; (with_reducible show wpAny _ _ (eval (Expr.Call (Expr.Name _ _) _ [] _) _) _ _ _); k_dflt (refine Call_ ?_)))
local macro_rules | `(tactic| walk_at "call ref") => `(tactic| (k_here; (with_reducible show wpAny _ _ (call (Value.ref 231) _) _ _ _); k_dflt (refine wpAny_call ?_; refine' SpecS.use (cell_spec _ _ _ _ _ _ _ _ ?zhsi ?zhsb ?zhsl _ _ ?zhk0 ?zhk1) ?zB ?zhS ?zF ?zX ?zN ?zT ?zhk ?zhd ?zhu ?_; (case zB | zhS | zF | zX | zN | zT => k_asm); (case zhk => first | exact rfl | assumption); (case zhd => ktr_room); (case zhu => ktr_units); (case zhsi => assumption); (case zhsb => assumption); (case zhsl => omega); (case zhk0 | zhk1 => omega)); k_dflt (intro r' nw' h' tk' F' N' S' O'; obtain ⟨x', t', e', x0', xb'⟩ := O'; subst e'; (replace N' := newsDown N' S'); clear S'); k_dflt (first | refine cmpBack_ref ?_ | refine cmpBack_bool ?_ | skip); (try k_sweep)))
local macro_rules | `(tactic| walk_at "exec For Name Call cons nil") => `(tactic| (k_here; (rename Fr _ _ _ _ => lF'); (with_unfolding_all refine' For_invVF lF' ?k1 ?k2 ?_; (case k1 => exact rfl); (case k2 => exact rfl); k_whole)))
local macro_rules | `(tactic| walk_at "pyIter ref") => `(tactic| (k_here; refine halt_of ?_))
theorem walkOff17 : True := by
  w_top off
  trivial
set_option maxHeartbeats 4000000 in
theorem row_spec (w mean mg mb) (news : Led) (sl : Addr) (svs : List Value) (sns : List Int) (hsi : IntsAre svs sns) (hsb : ∀ x ∈ sns, Builtin.Int.intBits x ≤ 2 ^ 20) (hsl : sns.length ≤ 63) (k : Int) (t : Tok) (size : Nat) (t2 t3 : Tok) (hk0 : 0 ≤ k) (hk1 : k ≤ 1000) (hsz : size ≤ 64) :
    SpecS w mean mg mb sl svs 238 [.ref sl, .int k t, .int (size : Int) t2, .int 100000 t3] 4 news (fun r nw => ∃ ns, ListNew news nw r ns ∧ ns.length = size ∧ ∀ x ∈ ns, 0 ≤ x ∧ x < 100000) := by
  unfold SpecS
  k_fill
  intro dp un gd cn cs a ccd cl outer A₀ base h₀ L m s Q E B hS F X N T hk hd hu hret
  first | k_dflt ktr_enter | fail "enter"
  k_steps
  unfold Halt
  refine' loop_rp (n := size) [Str.ofString "number"] (fun i m ns => ns.length = i ∧ (∀ x ∈ ns, 0 ≤ x ∧ x < 100000) ∧ ∃ a ta, m (Str.ofString "number") = some (.int a ta)) ?hh ?hr ?hbd ?hnn ?F ?N ?hD ?hi ?h0 (fun i u h tk vs ns k t zn hin hI hP hS hoff F' N' => ?turn) (fun u h tk vs ns k hI hP F' N' => ?done)
  case hh => rfl
  case hr => assumption
  case hbd => omega
  case hnn => omega
  case F => k_asm
  case N => k_asm
  case hD => k_all
  case hi => exact .nil
  case h0 => exact ⟨rfl, (by intro x hx; simp at hx), _, _, rfl⟩
  case turn =>
    obtain ⟨hl1, hv1, a1, ta1, hm1⟩ := hP
    rw [map1 hm1] at F'
    k_steps
    all_goals (rename News _ _ _ _ => N9; simp only [List.push_toArray] at N9)
    all_goals (refine NEnd.intro (by k_asm) N9 (by intro p hp; k_mem) ⟨?_, _, ns ++ [_], _, List.mem_cons_self, IntsAre.append hI (.cons _ _ .nil), ?_, ?_, ⟨_, _, rfl⟩⟩)
    all_goals first
      | (intro z h1 h2; have h3 : z ≠ Str.ofString "number" := (by intro e; subst e; simp at h2); simp [h1, h3]; done)
      | (rw [List.length_append, hl1]; rfl)
      | (intro x hx
         rcases List.mem_append.mp hx with hx | hx
         · exact hv1 x hx
         · rw [List.mem_singleton.mp hx]
           exact ⟨fmod_lo _ (by decide), fmod_hi _ (by decide)⟩)
  case done =>
    k_steps
    exact hret _ _ _ _ (by k_asm) (by k_asm) (by intro p hp; k_mem) ⟨ns, ⟨_, _, _, rfl, by k_mem, hI, by k_all⟩, hP.1, hP.2.1⟩
end
section
local macro_rules | `(tactic| walk_at "eval Call") => `(tactic| (k_here; (with_reducible show wpAny _ _ (eval (Expr.Call (Expr.Name _ _) _ [] _) _) _ _ _); k_dflt (refine Call_ ?_)))
local macro_rules | `(tactic| walk_at "call ref") => `(tactic| (k_here; (with_reducible show wpAny _ _ (call (Value.ref 231) _) _ _ _); k_dflt (refine wpAny_call ?_; refine' SpecS.use (cell_spec _ _ _ _ _ _ _ _ ?zhsi ?zhsb ?zhsl _ _ ?zhk0 ?zhk1) ?zB ?zhS ?zF ?zX ?zN ?zT ?zhk ?zhd ?zhu ?_; (case zB | zhS | zF | zX | zN | zT => k_asm); (case zhk => first | exact rfl | assumption); (case zhd => ktr_room); (case zhu => ktr_units); (case zhsi => assumption); (case zhsb => assumption); (case zhsl => omega); (case zhk0 | zhk1 => omega)); k_dflt (intro r' nw' h' tk' F' N' S' O'; obtain ⟨x', t', e', x0', xb'⟩ := O'; subst e'; (replace N' := newsDown N' S'); clear S'); k_dflt (first | refine cmpBack_ref ?_ | refine cmpBack_bool ?_ | skip); (try k_sweep)))
local macro_rules | `(tactic| walk_at "call ref") => `(tactic| (k_here; (with_reducible show wpAny _ _ (call (Value.ref 238) _) _ _ _); k_dflt (refine wpAny_call ?_; refine' SpecS.use (row_spec _ _ _ _ _ _ _ _ ?zhsi ?zhsb ?zhsl _ _ _ _ _ ?zhk0 ?zhk1 ?zhsz) ?zB ?zhS ?zF ?zX ?zN ?zT ?zhk ?zhd ?zhu ?_; (case zB | zhS | zF | zX | zN | zT => k_asm); (case zhk => first | exact rfl | assumption); (case zhd => ktr_room); (case zhu => ktr_units); (case zhsi => assumption); (case zhsb => assumption); (case zhsl => omega); (case zhk0 | zhk1 | zhsz => omega)); k_dflt (intro r' nw' h' tk' F' N' S' O'; obtain ⟨ns', ⟨l', vs', k', e1', m1', i1', n1'⟩, hl', hv'⟩ := O'; subst e1'); k_dflt (first | refine cmpBack_ref ?_ | refine cmpBack_bool ?_ | skip); (try k_sweep)))
local macro_rules | `(tactic| walk_at "exec For Name Call cons nil") => `(tactic| (k_here; (rename Fr _ _ _ _ => lF'); (with_unfolding_all refine' For_invVF lF' ?k1 ?k2 ?_; (case k1 => exact rfl); (case k2 => exact rfl); k_whole)))
local macro_rules | `(tactic| walk_at "pyIter ref") => `(tactic| (k_here; refine halt_of ?_))
local macro_rules | `(tactic| walk_at "binaryOp Mult int int") => `(tactic| (k_here; (with_reducible show wpAny _ _ (binaryOp Operator.Mult (Value.int _ _) (Value.int _ _)) _ _ _); k_dflt (refine PyProof.Rows.mul_int ?_ (IntMulOk.of_right (menu_bits _)))))
local macro_rules | `(tactic| walk_at "setItem ref int") => `(tactic| (k_here; (with_reducible show wpAny _ _ (setItem (Value.ref _) (Value.int _ _) (Value.int _ _)) _ _ _); k_dflt (refine' ksa_set ?k1 ?k2 ?k3 ?k4 ?k5 ?k6 ?k7 ?_; (case k1 => k_asm); (case k2 => k_asm); (case k3 => k_upd); (case k4 => with_reducible assumption); (case k5 => ksa_idx); (case k6 => ksa_idx); (case k7 => ksa_idx); k_whole); intro h' F' N' hi' hl' hs'; clear hl' hs'; (try k_sweep)))
theorem walkOff18 : True := by
  w_top off
  trivial
set_option maxHeartbeats 4000000 in
theorem numbers_spec (w mean mg mb) (news : Led) (sl : Addr) (svs : List Value) (sns : List Int) (hsi : IntsAre svs sns) (hsb : ∀ x ∈ sns, Builtin.Int.intBits x ≤ 2 ^ 20) (hsl : sns.length ≤ 63) (k : Int) (t : Tok) (size : Nat) (t2 : Tok) (hk0 : 0 ≤ k) (hk1 : k ≤ 1000) (hsz : size ≤ 64) :
    SpecS w mean mg mb sl svs 245 [.ref sl, .int k t, .int (size : Int) t2] 6 news (fun r nw => ∃ ns, ListNew news nw r ns ∧ ns.length = size ∧ ∀ x ∈ ns, Builtin.Int.intBits x ≤ 2 ^ 20) := by
  unfold SpecS
  k_fill
  intro dp un gd cn cs a ccd cl outer A₀ base h₀ L m s Q E B hS F X N T hk hd hu hret
  first | k_dflt ktr_enter | fail "enter"
  k_steps
  unfold Halt
  rename News _ _ _ _ => N9
  rename Sub _ _ => S9
  rename (_, W.listOf _ _) ∈ _ => m9
  rename ∀ p ∈ news, p.1 ≠ _ => n9
  rename List.length _ = size => l9
  rename ∀ x ∈ _, 0 ≤ x ∧ x < (100000 : Int) => v9
  refine' loop_rp (n := size) [] (fun i m ns => ns.length = size ∧ ∀ x ∈ ns, Builtin.Int.intBits x ≤ 2 ^ 20) ?hh ?hr ?hbd ?hnn ?F (newsCons N9 m9 S9) ?hD ?hi ?h0 (fun i u h tk vs ns k t zn hin hI hP hS hoff F' N' => ?turn) (fun u h tk vs ns k hI hP F' N' => ?done)
  case hh => rfl
  case hr => assumption
  case hbd => omega
  case hnn => omega
  case F => k_asm
  case hD => exact n9
  case hi => assumption
  case h0 => exact ⟨l9, fun x hx => bits_small (by have := v9 x hx; omega) (by have := v9 x hx; omega)⟩
  case turn =>
    obtain ⟨hl1, hv1⟩ := hP
    k_steps
    all_goals (refine NEnd.intro (by k_asm) (by k_asm) (by intro p hp; k_mem) ⟨?_, _, _, _, List.mem_cons_of_mem _ List.mem_cons_self, by assumption, ?_, ?_⟩)
    all_goals first
      | (intro z h1 h2; simp [h1]; done)
      | (simp only [List.length_set]; exact hl1)
      | exact bits_set (bits_set hv1 _ (menu_mul (bits_getD hv1 _) _)) _ (bits_getD hsb _)
      | exact bits_set hv1 _ (menu_mul (bits_getD hv1 _) _)
  case done =>
    k_steps
    exact hret _ _ _ _ (by k_asm) (by k_asm) (by intro p hp; k_mem) ⟨ns, ⟨_, _, _, rfl, by k_mem, hI, by k_all⟩, hP.1, hP.2⟩
end
/-! the plain law: sums, antiperiodic functions, the product of two rows -/
def sm : Nat → (Nat → Int) → Int
  | 0, _ => 0
  | k + 1, f => sm k f + f k
theorem sm_congr {f g : Nat → Int} : ∀ {k : Nat}, (∀ i, i < k → f i = g i) → sm k f = sm k g
  | 0, _ => rfl
  | k + 1, h => by rw [sm, sm, sm_congr fun i hi => h i (Nat.lt_succ_of_lt hi), h k (Nat.lt_succ_self k)]
theorem sm_add (f g : Nat → Int) : ∀ k, sm k (fun i => f i + g i) = sm k f + sm k g
  | 0 => rfl
  | k + 1 => by simp only [sm]; rw [sm_add f g k]; omega
theorem sm_sub (f g : Nat → Int) : ∀ k, sm k (fun i => f i - g i) = sm k f - sm k g
  | 0 => rfl
  | k + 1 => by simp only [sm]; rw [sm_sub f g k]; omega
theorem sm_neg (f : Nat → Int) : ∀ k, sm k (fun i => -f i) = -sm k f
  | 0 => rfl
  | k + 1 => by simp only [sm]; rw [sm_neg f k]; omega
theorem sm_zero : ∀ k, sm k (fun _ => 0) = 0
  | 0 => rfl
  | k + 1 => by simp only [sm]; rw [sm_zero k]; rfl
theorem sm_mul (c : Int) (f : Nat → Int) : ∀ k, sm k (fun i => c * f i) = c * sm k f
  | 0 => by simp [sm]
  | k + 1 => by simp only [sm]; rw [sm_mul c f k, Int.mul_add]
theorem sm_mul_r (c : Int) (f : Nat → Int) (k : Nat) : sm k (fun i => f i * c) = sm k f * c := by
  rw [Int.mul_comm, ← sm_mul]; exact sm_congr fun i _ => Int.mul_comm _ _
theorem sm_swap (f : Nat → Nat → Int) (m : Nat) : ∀ k, sm k (fun i => sm m (fun j => f i j)) = sm m (fun j => sm k (fun i => f i j))
  | 0 => by simp only [sm]; rw [sm_zero]
  | k + 1 => by simp only [sm]; rw [sm_swap f m k, sm_add]
theorem sm_succ_left (f : Nat → Int) : ∀ k, sm (k + 1) f = f 0 + sm k (fun i => f (i + 1))
  | 0 => by simp [sm]
  | k + 1 => by rw [sm, sm_succ_left f k, sm]; omega
theorem sm_rev (f : Nat → Int) : ∀ k, sm k f = sm k (fun i => f (k - 1 - i))
  | 0 => rfl
  | k + 1 => by
    rw [sm_succ_left, sm_rev (fun i => f (i + 1)) k, sm]
    have h : sm k (fun i => f (k - 1 - i + 1)) = sm k (fun i => f (k + 1 - 1 - i)) := sm_congr fun i hi => by
      have : k - 1 - i + 1 = k + 1 - 1 - i := by omega
      rw [this]
    rw [h]
    have : k + 1 - 1 - k = 0 := by omega
    rw [this]
    omega
theorem sm_cut (f : Nat → Int) {t : Nat} : ∀ {k : Nat}, t ≤ k → sm k (fun i => if i < t then f i else 0) = sm t f
  | 0, h => by
    obtain rfl : t = 0 := by omega
    rfl
  | k + 1, h => by
    by_cases e : t = k + 1
    · subst e
      exact sm_congr fun i hi => if_pos hi
    · rw [sm, sm_cut f (k := k) (by omega), if_neg (by omega)]; omega
theorem sm_dvd {q : Int} {f g : Nat → Int} : ∀ {k : Nat}, (∀ i, i < k → q ∣ f i - g i) → q ∣ sm k f - sm k g
  | 0, _ => ⟨0, by simp [sm]⟩
  | k + 1, h => by
    have h1 := sm_dvd (q := q) (f := f) (g := g) (k := k) fun i hi => h i (by omega)
    have h2 := h k (by omega)
    have e : sm (k + 1) f - sm (k + 1) g = (sm k f - sm k g) + (f k - g k) := by simp only [sm]; omega
    rw [e]
    exact Int.dvd_add h1 h2
/-- one turn of `n` steps changes the sign -/
def Anti (n : Nat) (F : Int → Int) : Prop := ∀ t, F (t + n) = -F t
def Per (n : Nat) (F : Int → Int) : Prop := ∀ t, F (t + n) = F t
theorem per_mul {n : Nat} {F G : Int → Int} (hF : Anti n F) (hG : Anti n G) (c : Int) : Per n fun i => F i * G (c - i) := fun t => by
  have h1 := hF t
  have h2 := hG (c - (t + n))
  have e : c - (t + n) + n = c - t := by omega
  rw [e] at h2
  show F (t + n) * G (c - (t + n)) = F t * G (c - t)
  rw [h1, h2, Int.neg_mul, Int.mul_neg]
theorem per_shift1 {n : Nat} {F : Int → Int} (h : Per n F) (c : Int) : sm n (fun i => F (c + i)) = sm n (fun i => F (c + 1 + i)) := by
  have a := sm_succ_left (fun i => F (c + i)) n
  have b : sm (n + 1) (fun i => F (c + i)) = sm n (fun i => F (c + i)) + F (c + n) := rfl
  have d : F (c + n) = F (c + (0 : Nat)) := by rw [h c]; congr 1; simp
  have e : sm n (fun i => F (c + ((i + 1 : Nat) : Int))) = sm n (fun i => F (c + 1 + i)) := sm_congr fun i _ => by
    congr 1; omega
  rw [e] at a
  rw [b] at a
  rw [d] at a
  omega
theorem per_shiftN {n : Nat} {F : Int → Int} (h : Per n F) : ∀ (k : Nat) (c : Int), sm n (fun i => F (c + i)) = sm n (fun i => F (c + k + i))
  | 0, c => sm_congr fun i _ => by congr 1; simp
  | k + 1, c => by
    rw [per_shiftN h k c, per_shift1 h (c + k)]
    exact sm_congr fun i _ => by congr 1; omega
theorem per_shift {n : Nat} {F : Int → Int} (h : Per n F) (c d : Int) : sm n (fun i => F (c + i)) = sm n (fun i => F (d + i)) := by
  rcases Int.le_total c d with hcd | hcd
  · rw [per_shiftN h (d - c).toNat c]
    exact sm_congr fun i _ => by congr 1; omega
  · rw [per_shiftN h (c - d).toNat d]
    exact sm_congr fun i _ => by congr 1; omega
theorem per_back {n : Nat} {F : Int → Int} (h : Per n F) (c d : Int) : sm n (fun i => F (c - i)) = sm n (fun i => F (d + i)) := by
  rw [sm_rev, ← per_shift h (c - (n - 1 : Int)) d]
  exact sm_congr fun i hi => by congr 1; omega
/-- the product of two antiperiodic functions -/
def cv (n : Nat) (F G : Int → Int) : Int → Int := fun t => sm n fun i => F i * G (t - i)
theorem cv_anti {n : Nat} {F G : Int → Int} (hG : Anti n G) : Anti n (cv n F G) := fun t => by
  show sm n _ = -sm n _
  rw [← sm_neg]
  refine sm_congr fun i _ => ?_
  have e : t + (n : Int) - i = t - i + n := by omega
  rw [e, hG, Int.mul_neg]
theorem cv_comm {n : Nat} {F G : Int → Int} (hF : Anti n F) (hG : Anti n G) (t : Int) : cv n F G t = cv n G F t := by
  have p := per_mul hG hF t
  have h := per_back p t 0
  show sm n (fun i => F i * G (t - i)) = sm n (fun i => G i * F (t - i))
  have e1 : sm n (fun i => F i * G (t - i)) = sm n (fun i : Nat => (fun j : Int => G j * F (t - j)) (t - i)) := sm_congr fun i _ => by
    show _ = G (t - i) * F (t - (t - i))
    have e : t - (t - (i : Int)) = i := by omega
    rw [e, Int.mul_comm]
  rw [e1, h]
  exact sm_congr fun i _ => by
    show G (0 + i) * F (t - (0 + i)) = _
    rw [Int.zero_add]
theorem cv_assoc {n : Nat} {F G H : Int → Int} (hG : Anti n G) (hH : Anti n H) (t : Int) : cv n (cv n F G) H t = cv n F (cv n G H) t := by
  show sm n (fun i => sm n (fun j => F j * G (i - j)) * H (t - i)) = sm n (fun j => F j * sm n (fun i => G i * H (t - j - i)))
  have e1 : sm n (fun i => sm n (fun j => F j * G (i - j)) * H (t - i)) = sm n (fun i => sm n (fun j => F j * (G (i - j) * H (t - i)))) :=
    sm_congr fun i _ => by
      rw [← sm_mul_r]
      exact sm_congr fun j _ => Int.mul_assoc _ _ _
  rw [e1, sm_swap]
  refine sm_congr fun j _ => ?_
  rw [sm_mul]
  congr 1
  have p := per_mul hG hH (t - j)
  have h := per_shift p (-j) 0
  have e2 : sm n (fun i => G (i - j) * H (t - i)) = sm n (fun i : Nat => (fun k : Int => G k * H (t - j - k)) (-j + i)) := sm_congr fun i _ => by
    show _ = G (-j + i) * H (t - j - (-j + i))
    have x : (i : Int) - j = -j + i := by omega
    have y : t - (i : Int) = t - j - (-j + i) := by omega
    rw [x, y]
  rw [e2, h]
  exact sm_congr fun i _ => by
    show G (0 + i) * H (t - j - (0 + i)) = _
    rw [Int.zero_add]
/-- two functions with one rest at each place -/
def Eqv (q : Int) (F G : Int → Int) : Prop := ∀ t, q ∣ F t - G t
theorem Eqv.refl {q : Int} (F : Int → Int) : Eqv q F F := fun t => ⟨0, by omega⟩
theorem Eqv.of_eq {q : Int} {F G : Int → Int} (h : ∀ t, F t = G t) : Eqv q F G := fun t => ⟨0, by rw [h t]; omega⟩
theorem Eqv.symm {q : Int} {F G : Int → Int} (h : Eqv q F G) : Eqv q G F := fun t => by
  have := Int.dvd_neg.mpr (h t)
  have e : -(F t - G t) = G t - F t := by omega
  rwa [e] at this
theorem Eqv.trans {q : Int} {F G H : Int → Int} (h : Eqv q F G) (k : Eqv q G H) : Eqv q F H := fun t => by
  have := Int.dvd_add (h t) (k t)
  have e : F t - G t + (G t - H t) = F t - H t := by omega
  rwa [e] at this
theorem dvd_mul_sub {q a b c d : Int} (h : q ∣ a - b) (k : q ∣ c - d) : q ∣ a * c - b * d := by
  have e : a * c - b * d = (a - b) * c + b * (c - d) := by
    rw [Int.sub_mul, Int.mul_sub]; omega
  rw [e]
  exact Int.dvd_add (Int.dvd_mul_of_dvd_left h) (Int.dvd_mul_of_dvd_right k)
theorem cv_eqv {q : Int} {n : Nat} {F F' G G' : Int → Int} (h : Eqv q F F') (k : Eqv q G G') : Eqv q (cv n F G) (cv n F' G') := fun t =>
  sm_dvd fun i _ => dvd_mul_sub (h i) (k (t - i))
/-- the row as a function of all places -/
def ext (n : Nat) (a : List Int) : Int → Int := fun t => (if (t / n) % 2 = 0 then 1 else -1) * a.getD (t % n).toNat 0
theorem ext_at {n : Nat} (a : List Int) {t : Nat} (h : t < n) : ext n a t = a.getD t 0 := by
  have h1 : (t : Int) / n = 0 := Int.ediv_eq_zero_of_lt (by omega) (by omega)
  have h2 : (t : Int) % n = t := Int.emod_eq_of_lt (by omega) (by omega)
  unfold ext
  rw [h1, h2]
  simp
theorem ext_anti {n : Nat} (hn : 1 ≤ n) (a : List Int) : Anti n (ext n a) := fun t => by
  have h1 : (t + (n : Int)) / n = t / n + 1 := by
    rw [Int.add_ediv_of_dvd_right ⟨1, by omega⟩, Int.ediv_self (by omega)]
  have h2 : (t + (n : Int)) % n = t % n := by simp
  unfold ext
  rw [h1, h2]
  by_cases e : t / (n : Int) % 2 = 0
  · rw [if_pos e, if_neg (by omega)]; omega
  · rw [if_neg e, if_pos (by omega)]; omega
theorem ext_back {n : Nat} (hn : 1 ≤ n) (a : List Int) {t i : Nat} (h1 : t < i) (h2 : i < n) : ext n a ((t : Int) - i) = -a.getD (n + t - i) 0 := by
  have h := ext_anti hn a ((t : Int) - i)
  have e : (t : Int) - i + n = ((n + t - i : Nat) : Int) := by omega
  rw [e, ext_at a (by omega)] at h
  omega
theorem anti_turn {n : Nat} {F G : Int → Int} (hF : Anti n F) (hG : Anti n G) {q : Int} : ∀ (k : Nat) (t : Int), (q ∣ F t - G t) ↔ q ∣ F (t + n * k) - G (t + n * k)
  | 0, t => by simp
  | k + 1, t => by
    rw [anti_turn hF hG k t]
    have e : t + (n : Int) * ((k + 1 : Nat) : Int) = t + n * k + n := by
      rw [Int.natCast_add, Int.mul_add]; omega
    rw [e, hF, hG]
    have e2 : -F (t + n * k) - -G (t + n * k) = -(F (t + n * k) - G (t + n * k)) := by omega
    rw [e2, Int.dvd_neg]
theorem eqv_of {n : Nat} (hn : 1 ≤ n) {q : Int} {F G : Int → Int} (hF : Anti n F) (hG : Anti n G) (h : ∀ t : Nat, t < n → q ∣ F t - G t) : Eqv q F G := fun t => by
  have hr1 := Int.emod_nonneg t (show (n : Int) ≠ 0 by omega)
  have hr2 := Int.emod_lt_of_pos t (show (0 : Int) < n by omega)
  have hd := Int.mul_ediv_add_emod t n
  have hk := h (t % n).toNat (by omega)
  rw [Int.toNat_of_nonneg hr1] at hk
  rcases Int.le_total 0 (t / n) with h0 | h0
  · have := (anti_turn hF hG (q := q) (t / n).toNat (t % n)).mp hk
    rw [Int.toNat_of_nonneg h0] at this
    have e : t % (n : Int) + n * (t / n) = t := by omega
    rwa [e] at this
  · refine (anti_turn hF hG (q := q) (-(t / n)).toNat t).mpr ?_
    rw [Int.toNat_of_nonneg (by omega)]
    have e : t + (n : Int) * -(t / n) = t % n := by rw [Int.mul_neg]; omega
    rwa [e]
theorem ext_eqv {n : Nat} (hn : 1 ≤ n) {q : Int} {a : List Int} {F : Int → Int} (hF : Anti n F) (h : ∀ t : Nat, t < n → q ∣ a.getD t 0 - F t) : Eqv q (ext n a) F :=
  eqv_of hn (ext_anti hn a) hF fun t ht => by rw [ext_at a ht]; exact h t ht
theorem dvd_fmod (x q : Int) : q ∣ Int.fmod x q - x := by
  have h := Int.fmod_add_mul_fdiv x q
  exact ⟨-Int.fdiv x q, by rw [Int.mul_neg]; omega⟩
theorem fmod_eq_of_dvd {x y q : Int} (hq : 0 < q) (h : q ∣ x - y) : Int.fmod x q = Int.fmod y q := by
  rw [Int.fmod_eq_emod_of_nonneg _ (by omega), Int.fmod_eq_emod_of_nonneg _ (by omega)]
  exact Int.emod_eq_emod_iff_emod_sub_eq_zero.mpr (Int.emod_eq_zero_of_dvd h)
theorem getD_set {l : List Int} {k t : Nat} {v : Int} (hk : k < l.length) : (l.set k v).getD t 0 = if t = k then v else l.getD t 0 := by
  simp only [List.getD_eq_getElem?_getD, List.getElem?_set]
  by_cases e : k = t
  · subst e; simp [hk]
  · rw [if_neg e, if_neg (fun h => e h.symm)]
theorem getD_rep (n t : Nat) : (List.replicate n (0 : Int)).getD t 0 = 0 := by
  simp only [List.getD_eq_getElem?_getD, List.getElem?_replicate]
  split <;> rfl
/-- one row of the law's product -/
theorem lin_at (a b : List Int) (n j : Nat) (hj : j < n) {t : Nat} (ht : t < n) : ∀ (k : Nat) (c : List Int), k ≤ n → c.length = n →
    (lin a b n j k c).getD t 0 = c.getD t 0 + (if j ≤ t then (if t - j < k then a.getD j 0 * b.getD (t - j) 0 else 0) else if n + t - j < k then -(a.getD j 0 * b.getD (n + t - j) 0) else 0)
  | 0, c, _, _ => by simp [lin]
  | k + 1, c, hk, hc => by
    have ih := lin_at a b n j hj ht k c (by omega) hc
    have hl : (lin a b n j k c).length = n := by rw [lin_length, hc]
    rw [lin]
    by_cases h : j + k < n
    · rw [if_pos h, getD_set (by omega), ih]
      by_cases e : t = j + k
      · subst e
        rw [if_pos rfl]
        have e1 : j + k - j = k := by omega
        rw [ih, if_pos (show j ≤ j + k by omega), if_pos (show j ≤ j + k by omega), if_neg (show ¬ j + k - j < k by omega), if_pos (show j + k - j < k + 1 by omega), e1]
        omega
      · rw [if_neg e]
        congr 1
        by_cases hjt : j ≤ t
        · rw [if_pos hjt, if_pos hjt]
          by_cases h1 : t - j < k
          · rw [if_pos h1, if_pos (by omega)]
          · rw [if_neg h1, if_neg (by omega)]
        · rw [if_neg hjt, if_neg hjt]
          by_cases h1 : n + t - j < k
          · rw [if_pos h1, if_pos (by omega)]
          · rw [if_neg h1, if_neg (by omega)]
    · rw [if_neg h, getD_set (by omega), ih]
      by_cases e : t = j + k - n
      · subst e
        rw [if_pos rfl]
        have e1 : n + (j + k - n) - j = k := by omega
        rw [ih, if_neg (show ¬ j ≤ j + k - n by omega), if_neg (show ¬ j ≤ j + k - n by omega), if_neg (show ¬ n + (j + k - n) - j < k by omega), if_pos (show n + (j + k - n) - j < k + 1 by omega), e1]
        omega
      · rw [if_neg e]
        congr 1
        by_cases hjt : j ≤ t
        · rw [if_pos hjt, if_pos hjt]
          by_cases h1 : t - j < k
          · rw [if_pos h1, if_pos (by omega)]
          · rw [if_neg h1, if_neg (by omega)]
        · rw [if_neg hjt, if_neg hjt]
          by_cases h1 : n + t - j < k
          · rw [if_pos h1, if_pos (by omega)]
          · rw [if_neg h1, if_neg (by omega)]
theorem lout_at (a b : List Int) (n : Nat) (hn : 1 ≤ n) {t : Nat} (ht : t < n) : ∀ j, j ≤ n → (lout a b n j).getD t 0 = sm j fun i => ext n a i * ext n b ((t : Int) - i)
  | 0, _ => by rw [lout, getD_rep]; rfl
  | j + 1, hj => by
    rw [lout, lin_at a b n j (by omega) ht n _ (Nat.le_refl n) (lout_length a b n j), lout_at a b n hn ht j (by omega), sm]
    congr 1
    rw [ext_at a (by omega)]
    by_cases h : j ≤ t
    · rw [if_pos h, if_pos (by omega)]
      have e : (t : Int) - j = ((t - j : Nat) : Int) := by omega
      rw [e, ext_at b (by omega)]
    · rw [if_neg h, if_pos (by omega), ext_back hn b (by omega) (by omega), Int.mul_neg]
theorem inner1_at (a b : List Int) (i : Nat) {t : Nat} : ∀ (j : Nat) (c : List Int), i + j ≤ c.length →
    (inner1 a b i j c).getD t 0 = c.getD t 0 + (if i ≤ t ∧ t < i + j then a.getD i 0 * b.getD (t - i) 0 else 0)
  | 0, c, _ => by rw [inner1, if_neg (by omega)]; omega
  | j + 1, c, hc => by
    have ih := inner1_at a b i (t := t) j c (by omega)
    have hl := inner1_length a b i j c
    rw [inner1]
    rw [getD_set (by omega), ih]
    by_cases e : t = i + j
    · subst e
      have e1 : i + j - i = j := by omega
      rw [if_pos rfl, ih, if_neg (by omega), if_pos (by omega), e1]
      omega
    · rw [if_neg e]
      congr 1
      by_cases h : i ≤ t ∧ t < i + j
      · rw [if_pos h, if_pos (by omega)]
      · rw [if_neg h, if_neg (by omega)]
theorem outer1_len (a b : List Int) (n : Nat) : ∀ i, (outer1 a b n i).length = n
  | 0 => by rw [outer1, List.length_replicate]
  | i + 1 => by rw [outer1, inner1_length, outer1_len a b n i]
theorem outer1_at (a b : List Int) (n : Nat) {t : Nat} (ht : t < n) : ∀ i, i ≤ n → (outer1 a b n i).getD t 0 = sm i fun k => if k ≤ t then a.getD k 0 * b.getD (t - k) 0 else 0
  | 0, _ => by rw [outer1, getD_rep]; rfl
  | i + 1, hi => by
    rw [outer1, inner1_at a b i _ _ (by rw [outer1_len]; omega), outer1_at a b n ht i (by omega), sm]
    congr 1
    by_cases h : i ≤ t
    · rw [if_pos h, if_pos (by omega)]
    · rw [if_neg h, if_neg (by omega)]
theorem inner2_len (a b : List Int) (n j : Nat) : ∀ t c, (inner2 a b n j t c).length = c.length
  | 0, _ => rfl
  | t + 1, c => by
    rw [inner2]
    rw [List.length_set, inner2_len]
theorem inner2_at (a b : List Int) (n j : Nat) {t : Nat} : ∀ (k : Nat) (c : List Int), k ≤ c.length →
    (inner2 a b n j k c).getD t 0 = c.getD t 0 - (if t < k then a.getD (n - j + t) 0 * b.getD j 0 else 0)
  | 0, c, _ => by rw [inner2, if_neg (by omega)]; omega
  | k + 1, c, hc => by
    have ih := inner2_at a b n j (t := t) k c (by omega)
    have hl := inner2_len a b n j k c
    rw [inner2]
    rw [getD_set (by omega), ih]
    by_cases e : t = k
    · subst e
      rw [if_pos rfl, ih, if_neg (by omega), if_pos (by omega)]
      omega
    · rw [if_neg e]
      congr 1
      by_cases h : t < k
      · rw [if_pos h, if_pos (by omega)]
      · rw [if_neg h, if_neg (by omega)]
theorem outer2_len (a b : List Int) (n : Nat) : ∀ s, (outer2 a b n s).length = n
  | 0 => by rw [outer2, outer1_len]
  | s + 1 => by rw [outer2, inner2_len, outer2_len a b n s]
theorem outer2_at (a b : List Int) (n : Nat) {t : Nat} (ht : t < n) : ∀ s, s < n →
    (outer2 a b n s).getD t 0 = (outer1 a b n n).getD t 0 - sm (s + 1) fun k => if t < k then a.getD (n - k + t) 0 * b.getD k 0 else 0
  | 0, _ => by rw [outer2, sm, sm, if_neg (by omega)]; omega
  | s + 1, hs => by
    rw [outer2, inner2_at a b n (s + 1) _ _ (by rw [outer2_len]; omega), outer2_at a b n ht s (by omega)]
    have e : ∀ F : Nat → Int, sm (s + 1 + 1) F = sm (s + 1) F + F (s + 1) := fun _ => rfl
    rw [e]
    omega
theorem sbook_len (a b : List Int) (n : Nat) : (sbook a b n).length = n := outer2_len a b n _
theorem sbook_at (a b : List Int) (n : Nat) (hn : 1 ≤ n) {t : Nat} (ht : t < n) : (sbook a b n).getD t 0 = cv n (ext n b) (ext n a) t := by
  have e0 : n - 1 + 1 = n := by omega
  rw [sbook, outer2_at a b n ht (n - 1) (by omega), outer1_at a b n ht n (Nat.le_refl n), e0]
  have f1 : sm n (fun k => if k ≤ t then a.getD k 0 * b.getD (t - k) 0 else 0) = sm n (fun k => if k < t + 1 then b.getD k 0 * a.getD (t - k) 0 else 0) := by
    have c1 : sm n (fun k => if k ≤ t then a.getD k 0 * b.getD (t - k) 0 else 0) = sm n (fun k => if k < t + 1 then (fun k => a.getD k 0 * b.getD (t - k) 0) k else 0) :=
      sm_congr fun k _ => by
        by_cases h : k ≤ t
        · rw [if_pos h, if_pos (by omega)]
        · rw [if_neg h, if_neg (by omega)]
    rw [c1, sm_cut (fun k => a.getD k 0 * b.getD (t - k) 0) (by omega), sm_cut (fun k => b.getD k 0 * a.getD (t - k) 0) (by omega), sm_rev]
    exact sm_congr fun k hk => by
      have x : t + 1 - 1 - k = t - k := by omega
      have y : t - (t - k) = k := by omega
      rw [x, y, Int.mul_comm]
  rw [f1, ← sm_sub]
  refine sm_congr fun k hk => ?_
  rw [ext_at b hk]
  by_cases h : k < t + 1
  · rw [if_pos h, if_neg (by omega)]
    have e : (t : Int) - k = ((t - k : Nat) : Int) := by omega
    rw [e, ext_at a (by omega)]
    omega
  · have e : n - k + t = n + t - k := by omega
    rw [if_neg h, if_pos (by omega), ext_back hn a (by omega) hk, e, Int.mul_neg, Int.mul_comm]
    omega
theorem map_getD {f : Int → Int} (l : List Int) {t : Nat} (h : t < l.length) : (l.map f).getD t 0 = f (l.getD t 0) := by
  simp [List.getD_eq_getElem?_getD, List.getElem?_eq_getElem h]
theorem zip_getD {f : Int → Int → Int} (l k : List Int) {t : Nat} (h : t < l.length) (h' : t < k.length) : (List.zipWith f l k).getD t 0 = f (l.getD t 0) (k.getD t 0) := by
  simp [List.getD_eq_getElem?_getD, List.getElem?_zipWith, List.getElem?_eq_getElem h, List.getElem?_eq_getElem h']
theorem ext_mulq {q : Int} {n : Nat} (hn : 1 ≤ n) (a b : List Int) : Eqv q (ext n (mulq q n a b)) (cv n (ext n a) (ext n b)) :=
  ext_eqv hn (cv_anti (ext_anti hn b)) fun t ht => by
    rw [mulq, map_getD _ (by rw [sbook_len]; exact ht), ← cv_comm (ext_anti hn b) (ext_anti hn a), ← sbook_at a b n hn ht]
    exact dvd_fmod _ _
theorem ext_lprod {q : Int} {n : Nat} (hn : 1 ≤ n) (a b : List Int) : Eqv q (ext n (lprod q n a b)) (cv n (ext n a) (ext n b)) :=
  ext_eqv hn (cv_anti (ext_anti hn b)) fun t ht => by
    rw [lprod, map_getD _ (by rw [lout_length]; exact ht), lout_at a b n hn ht n (Nat.le_refl n)]
    exact dvd_fmod _ _
theorem ext_mod {q : Int} {n : Nat} (hn : 1 ≤ n) {a : List Int} (ha : a.length = n) : Eqv q (ext n (a.map fun c => Int.fmod c q)) (ext n a) :=
  ext_eqv hn (ext_anti hn a) fun t ht => by
    rw [map_getD _ (by omega), ext_at a ht]
    exact dvd_fmod _ _
/-- two rows of rests are one when their functions have one rest at each place -/
theorem rests_eq {q : Int} {n : Nat} (hq : 0 < q) {a b : List Int} (ha : a.length = n) (hb : b.length = n) (h : Eqv q (ext n a) (ext n b)) :
    (a.map fun c => Int.fmod c q) = b.map fun c => Int.fmod c q := by
  apply List.ext_getElem
  · simp [ha, hb]
  · intro t h1 h2
    have ht : t < n := by simpa [ha] using h1
    have := h t
    rw [ext_at a ht, ext_at b ht] at this
    simp only [List.getElem_map]
    have e := fmod_eq_of_dvd hq this
    simpa [List.getD_eq_getElem?_getD, List.getElem?_eq_getElem, ha, hb, ht] using e
theorem map_mod_mod (q : Int) (a : List Int) : ((a.map fun c => Int.fmod c q).map fun c => Int.fmod c q) = a.map fun c => Int.fmod c q := by
  rw [List.map_map]
  exact List.map_congr_left fun x _ => by simp [Function.comp]
/-- rows that stand reduced -/
theorem red_eq {q : Int} {n : Nat} (hq : 0 < q) {a b : List Int} (ha : a.length = n) (hb : b.length = n) (ra : (a.map fun c => Int.fmod c q) = a) (rb : (b.map fun c => Int.fmod c q) = b) (h : Eqv q (ext n a) (ext n b)) : a = b := by
  rw [← ra, ← rb]; exact rests_eq hq ha hb h
theorem red_mulq (q : Int) (n : Nat) (a b : List Int) : ((mulq q n a b).map fun c => Int.fmod c q) = mulq q n a b := map_mod_mod q _
theorem red_lprod (q : Int) (n : Nat) (a b : List Int) : ((lprod q n a b).map fun c => Int.fmod c q) = lprod q n a b := map_mod_mod q _
theorem mulq_len (q : Int) (n : Nat) (a b : List Int) : (mulq q n a b).length = n := by rw [mulq, List.length_map, sbook_len]
theorem mulq_comm {q : Int} {n : Nat} (hn : 1 ≤ n) (hq : 0 < q) (a b : List Int) : mulq q n a b = mulq q n b a :=
  red_eq hq (mulq_len ..) (mulq_len ..) (red_mulq ..) (red_mulq ..) ((ext_mulq hn a b).trans ((Eqv.of_eq fun t => cv_comm (ext_anti hn a) (ext_anti hn b) t).trans (ext_mulq hn b a).symm))
theorem mulq_lprod {q : Int} {n : Nat} (hn : 1 ≤ n) (hq : 0 < q) (a b : List Int) : mulq q n a b = lprod q n a b :=
  red_eq hq (mulq_len ..) (lprod_length ..) (red_mulq ..) (red_lprod ..) ((ext_mulq hn a b).trans (ext_lprod hn a b).symm)
theorem mulq_assoc {q : Int} {n : Nat} (hn : 1 ≤ n) (hq : 0 < q) (a b c : List Int) : mulq q n (mulq q n a b) c = mulq q n a (mulq q n b c) := by
  refine red_eq hq (mulq_len ..) (mulq_len ..) (red_mulq ..) (red_mulq ..) ?_
  refine (ext_mulq hn _ c).trans ((cv_eqv (ext_mulq hn a b) (Eqv.refl _)).trans ?_)
  refine Eqv.trans (Eqv.of_eq fun t => cv_assoc (ext_anti hn b) (ext_anti hn c) t) ?_
  exact ((ext_mulq hn a _).trans (cv_eqv (Eqv.refl _) (ext_mulq hn b c))).symm
theorem mulq_add {q : Int} {n : Nat} (hn : 1 ≤ n) (hq : 0 < q) {a b c : List Int} (hb : b.length = n) (hc : c.length = n) :
    mulq q n a (List.zipWith (fun x y => Int.fmod (x + y) q) b c) = List.zipWith (fun x y => Int.fmod (x + y) q) (mulq q n a b) (mulq q n a c) := by
  refine red_eq (n := n) hq (mulq_len ..) (by simp [mulq_len]) (red_mulq ..) ?_ ?_
  · simp [List.map_zipWith]
  refine eqv_of hn (ext_anti hn _) (ext_anti hn _) fun t ht => ?_
  rw [ext_at _ ht, ext_at _ ht, zip_getD _ _ (by rw [mulq_len]; exact ht) (by rw [mulq_len]; exact ht)]
  have h1 := ext_mulq (q := q) hn a (List.zipWith (fun x y => Int.fmod (x + y) q) b c) t
  have h2 := ext_mulq (q := q) hn a b t
  have h3 := ext_mulq (q := q) hn a c t
  rw [ext_at _ ht] at h1 h2 h3
  have hz : Eqv q (ext n (List.zipWith (fun x y => Int.fmod (x + y) q) b c)) (fun t => ext n b t + ext n c t) :=
    ext_eqv hn (fun t => by rw [ext_anti hn b t, ext_anti hn c t]; omega) fun t ht => by
      rw [zip_getD _ _ (by omega) (by omega), ext_at b ht, ext_at c ht]; exact dvd_fmod _ _
  have h4 := cv_eqv (Eqv.refl (ext n a)) hz (n := n) t
  have h5 : cv n (ext n a) (fun t => ext n b t + ext n c t) t = cv n (ext n a) (ext n b) t + cv n (ext n a) (ext n c) t := by
    show sm n _ = sm n _ + sm n _
    rw [← sm_add]
    exact sm_congr fun i _ => Int.mul_add _ _ _
  rw [h5] at h4
  have h6 := dvd_fmod ((mulq q n a b).getD t 0 + (mulq q n a c).getD t 0) q
  obtain ⟨k1, h1⟩ := h1; obtain ⟨k2, h2⟩ := h2; obtain ⟨k3, h3⟩ := h3; obtain ⟨k4, h4⟩ := h4; obtain ⟨k6, h6⟩ := h6
  exact ⟨k1 + k4 - k2 - k3 - k6, by rw [Int.mul_sub, Int.mul_sub, Int.mul_sub, Int.mul_add]; omega⟩
theorem mulq_sub {q : Int} {n : Nat} (hn : 1 ≤ n) (hq : 0 < q) {a b c : List Int} (hb : b.length = n) (hc : c.length = n) :
    mulq q n a (List.zipWith (fun x y => Int.fmod (x - y) q) b c) = List.zipWith (fun x y => Int.fmod (x - y) q) (mulq q n a b) (mulq q n a c) := by
  refine red_eq (n := n) hq (mulq_len ..) (by simp [mulq_len]) (red_mulq ..) ?_ ?_
  · simp [List.map_zipWith]
  refine eqv_of hn (ext_anti hn _) (ext_anti hn _) fun t ht => ?_
  rw [ext_at _ ht, ext_at _ ht, zip_getD _ _ (by rw [mulq_len]; exact ht) (by rw [mulq_len]; exact ht)]
  have h1 := ext_mulq (q := q) hn a (List.zipWith (fun x y => Int.fmod (x - y) q) b c) t
  have h2 := ext_mulq (q := q) hn a b t
  have h3 := ext_mulq (q := q) hn a c t
  rw [ext_at _ ht] at h1 h2 h3
  have hz : Eqv q (ext n (List.zipWith (fun x y => Int.fmod (x - y) q) b c)) (fun t => ext n b t - ext n c t) :=
    ext_eqv hn (fun t => by rw [ext_anti hn b t, ext_anti hn c t]; omega) fun t ht => by
      rw [zip_getD _ _ (by omega) (by omega), ext_at b ht, ext_at c ht]; exact dvd_fmod _ _
  have h4 := cv_eqv (Eqv.refl (ext n a)) hz (n := n) t
  have h5 : cv n (ext n a) (fun t => ext n b t - ext n c t) t = cv n (ext n a) (ext n b) t - cv n (ext n a) (ext n c) t := by
    show sm n _ = sm n _ - sm n _
    rw [← sm_sub]
    exact sm_congr fun i _ => Int.mul_sub _ _ _
  rw [h5] at h4
  have h6 := dvd_fmod ((mulq q n a b).getD t 0 - (mulq q n a c).getD t 0) q
  obtain ⟨k1, h1⟩ := h1; obtain ⟨k2, h2⟩ := h2; obtain ⟨k3, h3⟩ := h3; obtain ⟨k4, h4⟩ := h4; obtain ⟨k6, h6⟩ := h6
  exact ⟨k1 + k4 - k2 + k3 - k6, by rw [Int.mul_sub, Int.mul_add, Int.mul_sub, Int.mul_add]; omega⟩
/-- powers -/
def un (n : Nat) : List Int := 1 :: List.replicate (n - 1) 0
theorem un_len {n : Nat} (hn : 1 ≤ n) : (un n).length = n := by simp [un]; omega
theorem un_at (n t : Nat) : (un n).getD t 0 = if t = 0 then 1 else 0 := by
  cases t with
  | zero => rfl
  | succ t => show (List.replicate (n - 1) (0 : Int)).getD t 0 = _; rw [getD_rep]; rfl
theorem cv_un {n : Nat} (hn : 1 ≤ n) (F : Int → Int) (t : Int) : cv n (ext n (un n)) F t = F t := by
  have e : n = (n - 1) + 1 := by omega
  have h : sm n (fun i => ext n (un n) i * F (t - i)) = sm (n - 1 + 1) (fun i => if i < 1 then F t else 0) := by
    rw [← e]
    exact sm_congr fun i hi => by
      rw [ext_at _ hi, un_at]
      by_cases h : i = 0
      · subst h; rw [if_pos rfl, if_pos (by omega)]; simp
      · rw [if_neg h, if_neg (by omega)]; simp
  show sm n _ = _
  rw [h, sm_cut (fun _ => F t) (by omega)]
  simp [sm]
def pw (n : Nat) (F : Int → Int) : Nat → Int → Int
  | 0 => ext n (un n)
  | k + 1 => cv n (pw n F k) F
theorem pw_anti {n : Nat} (hn : 1 ≤ n) {F : Int → Int} (hF : Anti n F) : ∀ k, Anti n (pw n F k)
  | 0 => ext_anti hn _
  | _ + 1 => cv_anti hF
theorem pw_add {n : Nat} (hn : 1 ≤ n) {F : Int → Int} (hF : Anti n F) (j : Nat) : ∀ (k : Nat) (t : Int), pw n F (j + k) t = cv n (pw n F j) (pw n F k) t
  | 0, t => by
    show pw n F j t = cv n (pw n F j) (ext n (un n)) t
    rw [cv_comm (pw_anti hn hF j) (ext_anti hn _), cv_un hn]
  | k + 1, t => by
    show cv n (pw n F (j + k)) F t = cv n (pw n F j) (cv n (pw n F k) F) t
    rw [← cv_assoc (pw_anti hn hF k) hF]
    have e : pw n F (j + k) = cv n (pw n F j) (pw n F k) := funext fun t => pw_add hn hF j k t
    rw [e]
theorem pw_eqv {q : Int} {n : Nat} {F G : Int → Int} (h : Eqv q F G) : ∀ k, Eqv q (pw n F k) (pw n G k)
  | 0 => Eqv.refl _
  | k + 1 => cv_eqv (pw_eqv h k) h
theorem pw_sq {n : Nat} (hn : 1 ≤ n) {F : Int → Int} (hF : Anti n F) : ∀ (k : Nat) (t : Int), pw n (cv n F F) k t = pw n F (2 * k) t
  | 0, _ => rfl
  | k + 1, t => by
    have e : pw n (cv n F F) k = pw n F (2 * k) := funext fun t => pw_sq hn hF k t
    show cv n (pw n (cv n F F) k) (cv n F F) t = cv n (cv n (pw n F (2 * k)) F) F t
    rw [e, cv_assoc hF hF]
theorem ext_powL {q : Int} {n : Nat} (hn : 1 ≤ n) : ∀ (e : Nat) (g f : List Int), Eqv q (ext n (powL q n g f e)) (cv n (ext n g) (pw n (ext n f) e)) := by
  intro e
  induction e using Nat.strongRecOn with
  | ind e ih =>
    intro g f
    by_cases h : e = 0
    · subst h
      rw [powL_zero]
      refine Eqv.of_eq fun t => ?_
      rw [cv_comm (ext_anti hn g) (pw_anti hn (ext_anti hn f) 0)]
      exact (cv_un hn _ t).symm
    · rw [powL_pos q n g f (by omega)]
      refine (ih (e / 2) (by omega) _ _).trans ?_
      have s1 : Eqv q (pw n (ext n (mulq q n f f)) (e / 2)) (pw n (ext n f) (2 * (e / 2))) :=
        (pw_eqv (ext_mulq hn f f) _).trans (Eqv.of_eq fun t => pw_sq hn (ext_anti hn f) _ t)
      by_cases ho : e % 2 = 1
      · rw [if_pos ho]
        refine (cv_eqv (ext_mulq hn g f) s1).trans (Eqv.of_eq fun t => ?_)
        rw [cv_assoc (ext_anti hn f) (pw_anti hn (ext_anti hn f) _)]
        have x : cv n (ext n f) (pw n (ext n f) (2 * (e / 2))) = pw n (ext n f) e := funext fun t => by
          rw [cv_comm (ext_anti hn f) (pw_anti hn (ext_anti hn f) _)]
          show pw n (ext n f) (2 * (e / 2) + 1) t = _
          have : 2 * (e / 2) + 1 = e := by omega
          rw [this]
        rw [x]
      · rw [if_neg ho]
        have x : 2 * (e / 2) = e := by omega
        rw [x] at s1
        exact cv_eqv (Eqv.refl _) s1
theorem ext_lpow {q : Int} {n : Nat} (hn : 1 ≤ n) (row : List Int) : ∀ k, Eqv q (ext n (lpow q n row k)) (pw n (ext n row) k)
  | 0 => ext_mod hn (un_len hn)
  | k + 1 => (ext_lprod hn _ row).trans (cv_eqv (ext_lpow hn row k) (Eqv.refl _))
theorem red_lpow (q : Int) (n : Nat) (row : List Int) : ∀ k, ((lpow q n row k).map fun c => Int.fmod c q) = lpow q n row k
  | 0 => map_mod_mod q _
  | _ + 1 => red_lprod ..
theorem power_eq {q : Int} {n : Nat} (hn : 1 ≤ n) (hq : 0 < q) {row : List Int} (hr : row.length = n) (e : Nat) :
    (powL q n (1 :: List.replicate (n - 1) 0) row e).map (fun c => Int.fmod c q) = lpow q n row e := by
  rw [← red_lpow]
  refine rests_eq (n := n) hq (powL_len q hn hr _) (lpow_length q n hn row e) ?_
  refine (ext_powL hn e (un n) row).trans (Eqv.trans (Eqv.of_eq fun t => cv_un hn _ t) (ext_lpow hn row e).symm)
theorem powers_eq {q : Int} {n : Nat} (hn : 1 ≤ n) (hq : 0 < q) {row : List Int} (j k : Nat) :
    (mulq q n (powL q n (1 :: List.replicate (n - 1) 0) row j) (powL q n (1 :: List.replicate (n - 1) 0) row k)).map (fun c => Int.fmod c q) = lpow q n row (j + k) := by
  rw [← red_lpow]
  refine rests_eq (n := n) hq (mulq_len ..) (lpow_length q n hn row _) ?_
  have p : ∀ e, Eqv q (ext n (powL q n (1 :: List.replicate (n - 1) 0) row e)) (pw n (ext n row) e) := fun e =>
    (ext_powL hn e (un n) row).trans (Eqv.of_eq fun t => cv_un hn _ t)
  refine (ext_mulq hn _ _).trans ((cv_eqv (p j) (p k)).trans (Eqv.trans (Eqv.of_eq fun t => ?_) (ext_lpow hn row _).symm))
  rw [pw_add hn (ext_anti hn row)]
theorem zip_range (f : Int → Int → Int) {a b : List Int} {n : Nat} (ha : a.length = n) (hb : b.length = n) :
    List.zipWith f a b = (rangeKs 0 (Int.toNat ((n : Int) - 0))).map fun k => f (a.getD k.toNat 0) (b.getD k.toNat 0) := by
  apply List.ext_getElem
  · simp [ha, hb, rangeKs]
  · intro t h1 h2
    have ht : t < n := by simpa [ha, hb] using h1
    simp [rangeKs, List.getD_eq_getElem?_getD, List.getElem?_eq_getElem, ha, hb, ht]
theorem mulq_sub_l {q : Int} {n : Nat} (hn : 1 ≤ n) (hq : 0 < q) {a b c : List Int} (ha : a.length = n) (hb : b.length = n) :
    mulq q n (List.zipWith (fun x y => Int.fmod (x - y) q) a b) c = List.zipWith (fun x y => Int.fmod (x - y) q) (mulq q n a c) (mulq q n b c) := by
  rw [mulq_comm hn hq, mulq_sub hn hq ha hb, mulq_comm hn hq c a, mulq_comm hn hq c b]
theorem mulq_lprod2 {q : Int} {n : Nat} (hn : 1 ≤ n) (hq : 0 < q) (a b c : List Int) : mulq q n (mulq q n a b) c = lprod q n (lprod q n a b) c := by
  rw [mulq_lprod hn hq, mulq_lprod hn hq]
theorem fmod_one_ne {q : Int} (hq : 2 ≤ q) (x : Int) : Int.fmod (Int.fmod x q + 1) q ≠ Int.fmod x q := by
  intro h
  have h1 := fmod_lo x (show (0 : Int) < q by omega)
  have h2 := fmod_hi x (show (0 : Int) < q by omega)
  rw [Int.fmod_eq_emod_of_nonneg _ (show (0 : Int) ≤ q by omega)] at h
  have h3 := Int.emod_add_mul_ediv (Int.fmod x q + 1) q
  rw [h] at h3
  have h4 : q * ((Int.fmod x q + 1) / q) = 1 := by omega
  have h5 : q ∣ 1 := ⟨_, h4.symm⟩
  have := Int.le_of_dvd (by omega) h5
  omega
theorem walkOff19 : True := by
  w_top off
  trivial
theorem allLt_ne2 {d x : Addr} {l : Led} (h : AllLt d l) (e : d < x) : ∀ p ∈ l, p.1 ≠ x
  | p, hp => by
    have := kst_ltOf h p hp
    exact Nat.ne_of_lt (Nat.lt_trans this e)
/-- the ring called with a list of just its length: the list itself is kept -/
def PolyOf (news nw : Led) (v : Value) (rg l : Addr) : Prop := ∃ f d h1 k1 h2 k2 c, v = .ref f ∧ (f, instObj 220 d) ∈ nw ∧ (d, W.dictOf [⟨h1, .str (Str.ofString "parent") k1, .ref rg⟩, ⟨h2, .str (Str.ofString "coeffs") k2, .ref l⟩] c) ∈ nw ∧ f ≠ d ∧ (∀ p ∈ news, p.1 ≠ f) ∧ (∀ p ∈ news, p.1 ≠ d)
set_option maxHeartbeats 8000000 in
theorem ring_specN (w mean mg mb) (news : Led) (rg : Addr) (l : Addr) (vs : List Value) (k : Nat) (ns : List Int) (q : Int) (n : Nat) (hr : RingIn news rg q n) (hm : (l, W.listOf vs.toArray k) ∈ news) (hi : IntsAre vs ns) (hlen : ns.length = n) (hn : n ≤ 64) :
    Spec w mean mg mb 56 [.ref rg, .ref l] 3 news (fun r nw => PolyOf news nw r rg l) := by
  refine RingIn.elim hr ?_
  clear hr
  intro d h1 k1 h2 k2 tq tn c hr1 hr2
  unfold Spec
  k_fill
  intro dp un gd cn cs a ccd cl outer A₀ base h₀ L m s Q E B F X N T hk hd hu hret
  first | k_dflt ktr_enter | fail "enter"
  k_steps
  refine hret _ _ _ _ (by k_asm) (by k_asm) (by intro p hp; k_mem) ⟨_, _, _, _, _, _, _, rfl, by k_mem, by k_mem, Ne.symm (Nat.ne_of_lt (by assumption)), ?_, by k_all⟩
  exact allLt_ne2 (by first | assumption | exact (by assumption : _ ∧ AllLt _ _).2 | exact (by assumption : _ ∧ _ ∧ AllLt _ _).2.2 | exact allLt_of (by assumption)) (by assumption)
section
local macro_rules | `(tactic| walk_at "eval ListComp") => `(tactic| (k_here; (with_reducible show wpAny _ _ (eval (Expr.ListComp _ _ _ _) _) _ _ _); k_dflt (refine LCg.ListComp_U (F₀ := by k_asm) (by with_unfolding_all rfl) (by decide) (by rfl) (by decide) (by rfl) ?_)))
local macro_rules | `(tactic| walk_at "binaryOp Mult int ref") => `(tactic| (k_here; (with_reducible show wpAny _ _ (binaryOp Operator.Mult (Value.int _ _) (Value.ref _)) _ _ _); k_dflt (refine' binop_R PySem.F.fills_int_mul PySem.F.slot_int_mul PySem.F.entry_int_mul (PySem.F.args_int_mul_2 _ _) (int_ref ?hD _ _).1 ?F ?X ?I ?hC ?hS ?hR ?hF ?hU ?_; (case F => k_asm); (case X => k_asm); (case I => k_inst); (case hD => exact rfl); (case hC => k_is); (case hS => k_is); (case hR => k_is); (case hF => k_is); (case hU => k_is); k_whole)))
local macro_rules | `(tactic| walk_at "binaryOp Add int ref") => `(tactic| (k_here; (with_reducible show wpAny _ _ (binaryOp Operator.Add (Value.int _ _) (Value.ref _)) _ _ _); k_dflt (refine' binop_R PySem.F.fills_int_add PySem.F.slot_int_add PySem.F.entry_int_add (PySem.F.args_int_add_2 _ _) (int_ref ?hD _ _).2.1 ?F ?X ?I ?hC ?hS ?hR ?hF ?hU ?_; (case F => k_asm); (case X => k_asm); (case I => k_inst); (case hD => exact rfl); (case hC => k_is); (case hS => k_is); (case hR => k_is); (case hF => k_is); (case hU => k_is); k_whole)))
local macro_rules | `(tactic| walk_at "binaryOp Sub int ref") => `(tactic| (k_here; (with_reducible show wpAny _ _ (binaryOp Operator.Sub (Value.int _ _) (Value.ref _)) _ _ _); k_dflt (refine' binop_R PySem.F.fills_int_sub PySem.F.slot_int_sub PySem.F.entry_int_sub (PySem.F.args_int_sub_2 _ _) (int_ref ?hD _ _).2.2 ?F ?X ?I ?hC ?hS ?hR ?hF ?hU ?_; (case F => k_asm); (case X => k_asm); (case I => k_inst); (case hD => exact rfl); (case hC => k_is); (case hS => k_is); (case hR => k_is); (case hF => k_is); (case hU => k_is); k_whole)))
local macro_rules | `(tactic| walk_at "CompSrc") => `(tactic| (k_here; k_dflt (refine LCg.CompSrc.ledger (by rfl) (by k_asm) (by k_asm) (by k_mem) (by kcf_size) ?_; intro g'; (refine' kcf_list _ (by first | assumption | l_ints) (fun k' t' I' oI' C' oC' D' m' ys' h' tk' E' hk' hC' hx' F' N' off' ne' hMark' => ?_) ?_); (all_goals (try (simp only [LCg.Off3, and_true] at off'))); kcf_last)))
local macro_rules | `(tactic| walk_at "binaryOp Mult int int") => `(tactic| (k_here; (with_reducible show wpAny _ _ (binaryOp Operator.Mult (Value.int _ _) (Value.int _ _)) _ _ _); k_dflt (refine PyProof.Rows.mul_int ?_ (mulOk_bd (by first | assumption | exact bd_all2 (by assumption) (by assumption)) (by first | assumption | exact bd_all2 (by assumption) (by assumption))))))
local macro_rules | `(tactic| walk_at "eval Call") => `(tactic| (k_here; (with_reducible show wpAny _ _ (eval (Expr.Call (Expr.Name _ _) _ [] _) _) _ _ _); k_dflt (refine Call_ ?_)))
local macro_rules | `(tactic| walk_at "eval Name") => `(tactic| (k_here; k_dflt (refine' nameX_L ?F ?v ?_ ?a ?b; (case F => k_asm); (case a => rfl); (case b => rfl); (case v => assumption); k_whole)))
local macro_rules | `(tactic| walk_at "call ref") => `(tactic| (k_here; (with_reducible show wpAny _ _ (call (Value.ref 250) _) _ _ _); k_dflt (refine wpAny_call ?_; refine' Spec.use (rests_spec _ _ _ _ _ _ _ _ _ ?zhl ?zhlen ?zhq) ?zB ?zF ?zX ?zN ?zT ?zhk ?zhd ?zhu ?_; walk_at "@c"); k_dflt (walk_at "@ln"); walk_at "@e"))
local macro_rules | `(tactic| walk_at "call ref") => `(tactic| (k_here; (with_reducible show wpAny _ _ (call (Value.ref 137) [Value.ref _, Value.ref _]) _ _ _); k_dflt (refine wpAny_call ?_; refine' Spec.use (add_spec _ _ _ _ _ _ _ _ _ _ _ _ ?zhr ?zhp ?zhpu ?zhlen ?zhlen2 ?zhn ?zhq) ?zB ?zF ?zX ?zN ?zT ?zhk ?zhd ?zhu ?_; walk_at "@c"); k_dflt (walk_at "@pn"); walk_at "@e"))
local macro_rules | `(tactic| walk_at "call ref") => `(tactic| (k_here; (with_reducible show wpAny _ _ (call (Value.ref 137) [Value.ref _, Value.int _ _]) _ _ _); k_dflt (refine wpAny_call ?_; refine' Spec.use (addi_spec _ _ _ _ _ _ _ _ _ _ _ _ _ ?zhr ?zhp ?zhlen ?zhn ?zhq) ?zB ?zF ?zX ?zN ?zT ?zhk ?zhd ?zhu ?_; walk_at "@c"); k_dflt (walk_at "@pn"); walk_at "@e"))
local macro_rules | `(tactic| walk_at "call ref") => `(tactic| (k_here; (with_reducible show wpAny _ _ (call (Value.ref 163) [Value.ref _, Value.ref _]) _ _ _); k_dflt (refine wpAny_call ?_; refine' Spec.use (sub_spec _ _ _ _ _ _ _ _ _ _ _ _ ?zhr ?zhp ?zhpu ?zhlen ?zhlen2 ?zhn ?zhq) ?zB ?zF ?zX ?zN ?zT ?zhk ?zhd ?zhu ?_; walk_at "@c"); k_dflt (walk_at "@pn"); walk_at "@e"))
local macro_rules | `(tactic| walk_at "call ref") => `(tactic| (k_here; (with_reducible show wpAny _ _ (call (Value.ref 125) _) _ _ _); k_dflt (refine wpAny_call ?_; refine' Spec.use (neg_spec _ _ _ _ _ _ _ _ _ _ ?zhr ?zhp ?zhlen ?zhn ?zhq) ?zB ?zF ?zX ?zN ?zT ?zhk ?zhd ?zhu ?_; walk_at "@c"); k_dflt (walk_at "@pn"); walk_at "@e"))
local macro_rules | `(tactic| walk_at "call ref") => `(tactic| (k_here; (with_reducible show wpAny _ _ (call (Value.ref 182) [Value.ref _, Value.int _ _]) _ _ _); k_dflt (refine wpAny_call ?_; refine' Spec.use (muli_spec _ _ _ _ _ _ _ _ _ _ _ _ ?zhr ?zhp ?zhlen ?zhn ?zhq ?zhb ?zhx) ?zB ?zF ?zX ?zN ?zT ?zhk ?zhd ?zhu ?_; (case zhx => first | assumption | exact bd_small (by omega) (by omega)); walk_at "@c"); k_dflt (walk_at "@pn"); walk_at "@e"))
local macro_rules | `(tactic| walk_at "call ref") => `(tactic| (k_here; (with_reducible show wpAny _ _ (call (Value.ref 182) [Value.ref _, Value.ref _]) _ _ _); k_dflt (refine wpAny_call ?_; refine' Spec.use (mul_spec _ _ _ _ _ _ _ _ _ _ _ _ ?zhr ?zhp ?zhpu ?zhlen ?zhlen2 ?zh1n ?zhn ?zhq ?zhb ?zhb2) ?zB ?zF ?zX ?zN ?zT ?zhk ?zhd ?zhu ?_; walk_at "@c"); k_dflt (walk_at "@pn"); walk_at "@e"))
local macro_rules | `(tactic| walk_at "call ref") => `(tactic| (k_here; (with_reducible show wpAny _ _ (call (Value.ref 257) _) _ _ _); k_dflt (refine wpAny_call ?_; refine' Spec.use (prod_spec _ _ _ _ _ _ _ _ _ _ _ _ ?zhp ?zhpu ?zhlen ?zhlen2 ?zhn ?zhq ?zhb ?zhb2) ?zB ?zF ?zX ?zN ?zT ?zhk ?zhd ?zhu ?_; walk_at "@c"); k_dflt (walk_at "@ln"); walk_at "@e"))
local macro_rules | `(tactic| walk_at "call ref") => `(tactic| (k_here; (with_reducible show wpAny _ _ (call (Value.ref 210) [Value.ref _, Value.ref _]) _ _ _); k_dflt (refine wpAny_call ?_; refine' Spec.use (eq_spec _ _ _ _ _ _ _ _ _ _ ?zhp ?zhpu) ?zB ?zF ?zX ?zN ?zT ?zhk ?zhd ?zhu ?_; walk_at "@c"); k_dflt (walk_at "@bo"); walk_at "@e"))
local macro_rules | `(tactic| walk_at "compareOp Eq ref ref") => `(tactic| (k_here; (with_reducible show wpAny _ _ (compareOp CmpOp.Eq (Value.ref _) (Value.ref _)) _ _ _); k_dflt (refine' eq_intsK ?k1 ?k2 ?k3 ?k4 ?k5 ?_; (case k1 => exact News.isList (by k_asm) (by k_mem)); (case k2 => l_ints); (case k3 => exact News.isList (by k_asm) (by k_mem)); (case k4 => l_ints); (case k5 => ktr_units))))
local macro_rules | `(tactic| walk_at "compareOp NotEq ref ref") => `(tactic| (k_here; (with_reducible show wpAny _ _ (compareOp CmpOp.NotEq (Value.ref _) (Value.ref _)) _ _ _); k_dflt (refine' ne_intsK ?k1 ?k2 ?k3 ?k4 ?k5 ?_; (case k1 => exact News.isList (by k_asm) (by k_mem)); (case k2 => l_ints); (case k3 => exact News.isList (by k_asm) (by k_mem)); (case k4 => l_ints); (case k5 => ktr_units))))
local macro_rules | `(tactic| walk_at "call ref") => `(tactic| (k_here; (with_reducible show wpAny _ _ (call (Value.ref 42) _) _ _ _); k_dflt (refine wpAny_call ?_; refine' Spec.use (zero_spec _ _ _ _ _ _ _ _ ?zhr ?zh1n ?zhn) ?zB ?zF ?zX ?zN ?zT ?zhk ?zhd ?zhu ?_; walk_at "@c"); k_dflt (walk_at "@pn"); walk_at "@e"))
local macro_rules | `(tactic| walk_at "call ref") => `(tactic| (k_here; (with_reducible show wpAny _ _ (call (Value.ref 203) [Value.ref _, Value.int _ _]) _ _ _); k_dflt (refine wpAny_call ?_; refine' Spec.use (pow_specX _ _ _ _ _ _ _ _ _ _ _ _ _ ?zhx ?zhr ?zhp ?zhlen ?zh1n ?zhn ?zhq ?zhq2 ?zhb ?zhe) ?zB ?zF ?zX ?zN ?zT ?zhk ?zhd ?zhu ?_; (case zhx => first | rfl | exact (Int.natCast_add _ _).symm); walk_at "@c"); k_dflt (walk_at "@po"); walk_at "@e"))
local macro_rules | `(tactic| walk_at "call ref") => `(tactic| (k_here; (with_reducible show wpAny _ _ (call (Value.ref 264) _) _ _ _); k_dflt (refine wpAny_call ?_; refine' Spec.use (power_specX _ _ _ _ _ _ _ _ _ _ _ _ _ ?zhx ?zhp ?zhlen ?zh1n ?zhn ?zhq ?zhq2 ?zhb ?zhm9) ?zB ?zF ?zX ?zN ?zT ?zhk ?zhd ?zhu ?_; (case zhx => first | rfl | exact (Int.natCast_add _ _).symm); walk_at "@c"); k_dflt (walk_at "@ls"); walk_at "@e"))
theorem walkOff20 : True := by
  w_top off
  trivial
set_option maxHeartbeats 4000000 in
theorem blk7 (st : Stmt) (hst : lawStmt? PySem.Challenge.rw_xy0002_02.row.toRowW.prog 6 = some st)
    (scope : Scope) (hsc : lawScope? PySem.Challenge.rw_xy0002_02.row.toRowW.prog = some scope)
    (w : World) (mean : ExcName → Option Value) (mg mb : Str → Option Value) (dp un : Nat) (gd : Option (List Code)) (a : Addr) (ccd : Value) (outer : List Env) (A₀ : Around) (base h₀ : Heap) (L : Addr) (m : Str → Option Value) (s : Shared) (E : Value → Shared → Prop) (news : Led)
    (c0 c1 c2 c3 c4 sl rg lr l0 l1 l2 : Addr) (o0 o1 o2 o3 o4 : Obj) (n : Nat) (q nb : Int) (tn tq tb : Tok) (svs vs0 vs1 vs2 : List Value) (sns r0 r1 r2 : List Int) (k0 k1 k2 kr : Nat) (v1 v2 v3 : Value)
    (B : Below A₀ base outer h₀) (hS : base.IsList sl svs.toArray) (X : (hd02.heap_39 w.params).In h₀) (T : Top Mine02.view (looseW Mine02.view []) mean mg mb h₀) (hdp : dp + 100 < recursionLimit) (hun : un + 800 < cLine)
    (hsi : IntsAre svs sns) (hsb : ∀ x ∈ sns, Builtin.Int.intBits x ≤ 2 ^ 20) (hsl : sns.length ≤ 63)
    (hc0 : (c0, o0) ∈ news) (hd0 : o0.data = .cell (some (.ref sl))) (hc1 : (c1, o1) ∈ news) (hd1 : o1.data = .cell (some (.int (n : Int) tn))) (hc2 : (c2, o2) ∈ news) (hd2 : o2.data = .cell (some (.ref rg))) (hc3 : (c3, o3) ∈ news) (hd3 : o3.data = .cell (some (.ref lr))) (hc4 : (c4, o4) ∈ news) (hd4 : o4.data = .cell (some (.int nb tb)))
    (h1n : 1 ≤ n) (hn : n ≤ 10) (hq : 2 ≤ q) (hq2 : q ≤ 10000) (hnb : Bd nb) (hr : RingIn news rg q n)
    (hrows : (lr, W.listOf #[.ref l0, .ref l1, .ref l2] kr) ∈ news) (hm0 : (l0, W.listOf vs0.toArray k0) ∈ news) (hm1 : (l1, W.listOf vs1.toArray k1) ∈ news) (hm2 : (l2, W.listOf vs2.toArray k2) ∈ news) (hi0 : IntsAre vs0 r0) (hi1 : IntsAre vs1 r1) (hi2 : IntsAre vs2 r2)
    (hl0 : r0.length = n) (hl1 : r1.length = n) (hl2 : r2.length = n) (hb0 : ∀ x ∈ r0, Bd x) (hb1 : ∀ x ∈ r1, Bd x) (hb2 : ∀ x ∈ r2, Bd x)
    (hmq : m (Str.ofString "q") = some (.int q tq)) (hm_1 : m (Str.ofString "one") = some v1) (hm_2 : m (Str.ofString "two") = some v2) (hm_3 : m (Str.ofString "three") = some v3)
    (hp1 : PolyIn news v1 rg r0) (hp2 : PolyIn news v2 rg r1) (hp3 : PolyIn news v3 rg r2)
    (F : Fr h₀ L s.heap m) (N : News h₀ L s.heap news) :
    wpAny (model PySem.Challenge.rw_xy0002_02.row.toRowW.prog w) (ktrTop dp un gd (Str.ofString "law") scope L a ccd [(Str.ofString "number", c4), (Str.ofString "rows", c3), (Str.ofString "ring", c2), (Str.ofString "n", c1), (Str.ofString "script", c0)] outer) (exec st (envX (Str.ofString "law") scope L a ccd [(Str.ofString "number", c4), (Str.ofString "rows", c3), (Str.ofString "ring", c2), (Str.ofString "n", c1), (Str.ofString "script", c0)])) (Stays h₀ L m news s) E s := by
  obtain rfl : _ = st := Option.some.inj (hst : some _ = some st)
  obtain rfl : _ = scope := Option.some.inj (hsc : some _ = some scope)
  clear hst hsc
  refine RingIn.elim hr ?_
  clear hr
  intro dr h1r k1r h2r k2r tqr tnr cr hr1 hr2
  refine PolyIn.elim hp1 ?_
  clear hp1
  intro f1 df1 ha1 ka1 hb1' kb1 a1 us1 ku1 cf1 eP9 ma1 mb1 mc1 ia1
  subst eP9
  refine PolyIn.elim hp2 ?_
  clear hp2
  intro f2 df2 ha2 ka2 hb2' kb2 a2 us2 ku2 cf2 eP9 ma2 mb2 mc2 ia2
  subst eP9
  refine PolyIn.elim hp3 ?_
  clear hp3
  intro f3 df3 ha3 ka3 hb3' kb3 a3 us3 ku3 cf3 eP9 ma3 mb3 mc3 ia3
  subst eP9
  revert X; k_fill; intro X
  k_steps
  all_goals first
    | exact Stays.intro (by k_asm) (by k_asm) (by intro p hp; k_mem)
    | skip
  all_goals (exfalso; rename ¬ ((_ : List Int) = _) => hne)
  exact hne (by rw [List.map_map]; exact zip_range (fun x y => Int.fmod (x + y) q) hl0 hl1)
theorem walkOff21 : True := by
  w_top off
  trivial
set_option maxHeartbeats 4000000 in
theorem blk8 (st : Stmt) (hst : lawStmt? PySem.Challenge.rw_xy0002_02.row.toRowW.prog 7 = some st)
    (scope : Scope) (hsc : lawScope? PySem.Challenge.rw_xy0002_02.row.toRowW.prog = some scope)
    (w : World) (mean : ExcName → Option Value) (mg mb : Str → Option Value) (dp un : Nat) (gd : Option (List Code)) (a : Addr) (ccd : Value) (outer : List Env) (A₀ : Around) (base h₀ : Heap) (L : Addr) (m : Str → Option Value) (s : Shared) (E : Value → Shared → Prop) (news : Led)
    (c0 c1 c2 c3 c4 sl rg lr l0 l1 l2 : Addr) (o0 o1 o2 o3 o4 : Obj) (n : Nat) (q nb : Int) (tn tq tb : Tok) (svs vs0 vs1 vs2 : List Value) (sns r0 r1 r2 : List Int) (k0 k1 k2 kr : Nat) (v1 v2 v3 : Value)
    (B : Below A₀ base outer h₀) (hS : base.IsList sl svs.toArray) (X : (hd02.heap_39 w.params).In h₀) (T : Top Mine02.view (looseW Mine02.view []) mean mg mb h₀) (hdp : dp + 100 < recursionLimit) (hun : un + 800 < cLine)
    (hsi : IntsAre svs sns) (hsb : ∀ x ∈ sns, Builtin.Int.intBits x ≤ 2 ^ 20) (hsl : sns.length ≤ 63)
    (hc0 : (c0, o0) ∈ news) (hd0 : o0.data = .cell (some (.ref sl))) (hc1 : (c1, o1) ∈ news) (hd1 : o1.data = .cell (some (.int (n : Int) tn))) (hc2 : (c2, o2) ∈ news) (hd2 : o2.data = .cell (some (.ref rg))) (hc3 : (c3, o3) ∈ news) (hd3 : o3.data = .cell (some (.ref lr))) (hc4 : (c4, o4) ∈ news) (hd4 : o4.data = .cell (some (.int nb tb)))
    (h1n : 1 ≤ n) (hn : n ≤ 10) (hq : 2 ≤ q) (hq2 : q ≤ 10000) (hnb : Bd nb) (hr : RingIn news rg q n)
    (hrows : (lr, W.listOf #[.ref l0, .ref l1, .ref l2] kr) ∈ news) (hm0 : (l0, W.listOf vs0.toArray k0) ∈ news) (hm1 : (l1, W.listOf vs1.toArray k1) ∈ news) (hm2 : (l2, W.listOf vs2.toArray k2) ∈ news) (hi0 : IntsAre vs0 r0) (hi1 : IntsAre vs1 r1) (hi2 : IntsAre vs2 r2)
    (hl0 : r0.length = n) (hl1 : r1.length = n) (hl2 : r2.length = n) (hb0 : ∀ x ∈ r0, Bd x) (hb1 : ∀ x ∈ r1, Bd x) (hb2 : ∀ x ∈ r2, Bd x)
    (hmq : m (Str.ofString "q") = some (.int q tq)) (hm_1 : m (Str.ofString "one") = some v1) (hm_2 : m (Str.ofString "two") = some v2) (hm_3 : m (Str.ofString "three") = some v3)
    (hp1 : PolyIn news v1 rg r0) (hp2 : PolyIn news v2 rg r1) (hp3 : PolyIn news v3 rg r2)
    (F : Fr h₀ L s.heap m) (N : News h₀ L s.heap news) :
    wpAny (model PySem.Challenge.rw_xy0002_02.row.toRowW.prog w) (ktrTop dp un gd (Str.ofString "law") scope L a ccd [(Str.ofString "number", c4), (Str.ofString "rows", c3), (Str.ofString "ring", c2), (Str.ofString "n", c1), (Str.ofString "script", c0)] outer) (exec st (envX (Str.ofString "law") scope L a ccd [(Str.ofString "number", c4), (Str.ofString "rows", c3), (Str.ofString "ring", c2), (Str.ofString "n", c1), (Str.ofString "script", c0)])) (Stays h₀ L m news s) E s := by
  obtain rfl : _ = st := Option.some.inj (hst : some _ = some st)
  obtain rfl : _ = scope := Option.some.inj (hsc : some _ = some scope)
  clear hst hsc
  refine RingIn.elim hr ?_
  clear hr
  intro dr h1r k1r h2r k2r tqr tnr cr hr1 hr2
  refine PolyIn.elim hp1 ?_
  clear hp1
  intro f1 df1 ha1 ka1 hb1' kb1 a1 us1 ku1 cf1 eP9 ma1 mb1 mc1 ia1
  subst eP9
  refine PolyIn.elim hp2 ?_
  clear hp2
  intro f2 df2 ha2 ka2 hb2' kb2 a2 us2 ku2 cf2 eP9 ma2 mb2 mc2 ia2
  subst eP9
  refine PolyIn.elim hp3 ?_
  clear hp3
  intro f3 df3 ha3 ka3 hb3' kb3 a3 us3 ku3 cf3 eP9 ma3 mb3 mc3 ia3
  subst eP9
  revert X; k_fill; intro X
  k_steps
  all_goals first
    | exact Stays.intro (by k_asm) (by k_asm) (by intro p hp; k_mem)
    | skip
  all_goals (exfalso; rename ¬ ((_ : List Int) = _) => hne)
  exact hne (by rw [List.map_map]; exact zip_range (fun x y => Int.fmod (x - y) q) hl0 hl1)
theorem walkOff22 : True := by
  w_top off
  trivial
set_option maxHeartbeats 4000000 in
theorem blk9 (st : Stmt) (hst : lawStmt? PySem.Challenge.rw_xy0002_02.row.toRowW.prog 8 = some st)
    (scope : Scope) (hsc : lawScope? PySem.Challenge.rw_xy0002_02.row.toRowW.prog = some scope)
    (w : World) (mean : ExcName → Option Value) (mg mb : Str → Option Value) (dp un : Nat) (gd : Option (List Code)) (a : Addr) (ccd : Value) (outer : List Env) (A₀ : Around) (base h₀ : Heap) (L : Addr) (m : Str → Option Value) (s : Shared) (E : Value → Shared → Prop) (news : Led)
    (c0 c1 c2 c3 c4 sl rg lr l0 l1 l2 : Addr) (o0 o1 o2 o3 o4 : Obj) (n : Nat) (q nb : Int) (tn tq tb : Tok) (svs vs0 vs1 vs2 : List Value) (sns r0 r1 r2 : List Int) (k0 k1 k2 kr : Nat) (v1 v2 v3 : Value)
    (B : Below A₀ base outer h₀) (hS : base.IsList sl svs.toArray) (X : (hd02.heap_39 w.params).In h₀) (T : Top Mine02.view (looseW Mine02.view []) mean mg mb h₀) (hdp : dp + 100 < recursionLimit) (hun : un + 800 < cLine)
    (hsi : IntsAre svs sns) (hsb : ∀ x ∈ sns, Builtin.Int.intBits x ≤ 2 ^ 20) (hsl : sns.length ≤ 63)
    (hc0 : (c0, o0) ∈ news) (hd0 : o0.data = .cell (some (.ref sl))) (hc1 : (c1, o1) ∈ news) (hd1 : o1.data = .cell (some (.int (n : Int) tn))) (hc2 : (c2, o2) ∈ news) (hd2 : o2.data = .cell (some (.ref rg))) (hc3 : (c3, o3) ∈ news) (hd3 : o3.data = .cell (some (.ref lr))) (hc4 : (c4, o4) ∈ news) (hd4 : o4.data = .cell (some (.int nb tb)))
    (h1n : 1 ≤ n) (hn : n ≤ 10) (hq : 2 ≤ q) (hq2 : q ≤ 10000) (hnb : Bd nb) (hr : RingIn news rg q n)
    (hrows : (lr, W.listOf #[.ref l0, .ref l1, .ref l2] kr) ∈ news) (hm0 : (l0, W.listOf vs0.toArray k0) ∈ news) (hm1 : (l1, W.listOf vs1.toArray k1) ∈ news) (hm2 : (l2, W.listOf vs2.toArray k2) ∈ news) (hi0 : IntsAre vs0 r0) (hi1 : IntsAre vs1 r1) (hi2 : IntsAre vs2 r2)
    (hl0 : r0.length = n) (hl1 : r1.length = n) (hl2 : r2.length = n) (hb0 : ∀ x ∈ r0, Bd x) (hb1 : ∀ x ∈ r1, Bd x) (hb2 : ∀ x ∈ r2, Bd x)
    (hmq : m (Str.ofString "q") = some (.int q tq)) (hm_1 : m (Str.ofString "one") = some v1) (hm_2 : m (Str.ofString "two") = some v2) (hm_3 : m (Str.ofString "three") = some v3)
    (hp1 : PolyIn news v1 rg r0) (hp2 : PolyIn news v2 rg r1) (hp3 : PolyIn news v3 rg r2)
    (F : Fr h₀ L s.heap m) (N : News h₀ L s.heap news) :
    wpAny (model PySem.Challenge.rw_xy0002_02.row.toRowW.prog w) (ktrTop dp un gd (Str.ofString "law") scope L a ccd [(Str.ofString "number", c4), (Str.ofString "rows", c3), (Str.ofString "ring", c2), (Str.ofString "n", c1), (Str.ofString "script", c0)] outer) (exec st (envX (Str.ofString "law") scope L a ccd [(Str.ofString "number", c4), (Str.ofString "rows", c3), (Str.ofString "ring", c2), (Str.ofString "n", c1), (Str.ofString "script", c0)])) (Stays h₀ L m news s) E s := by
  obtain rfl : _ = st := Option.some.inj (hst : some _ = some st)
  obtain rfl : _ = scope := Option.some.inj (hsc : some _ = some scope)
  clear hst hsc
  refine RingIn.elim hr ?_
  clear hr
  intro dr h1r k1r h2r k2r tqr tnr cr hr1 hr2
  refine PolyIn.elim hp1 ?_
  clear hp1
  intro f1 df1 ha1 ka1 hb1' kb1 a1 us1 ku1 cf1 eP9 ma1 mb1 mc1 ia1
  subst eP9
  refine PolyIn.elim hp2 ?_
  clear hp2
  intro f2 df2 ha2 ka2 hb2' kb2 a2 us2 ku2 cf2 eP9 ma2 mb2 mc2 ia2
  subst eP9
  refine PolyIn.elim hp3 ?_
  clear hp3
  intro f3 df3 ha3 ka3 hb3' kb3 a3 us3 ku3 cf3 eP9 ma3 mb3 mc3 ia3
  subst eP9
  revert X; k_fill; intro X
  k_steps
  all_goals first
    | exact Stays.intro (by k_asm) (by k_asm) (by intro p hp; k_mem)
    | skip
  all_goals (exfalso; rename ¬ ((_ : List Int) = _) => hne)
  exact hne (by rw [List.map_map]; exact List.map_congr_left fun x _ => by simp [Function.comp])
theorem walkOff23 : True := by
  w_top off
  trivial
set_option maxHeartbeats 4000000 in
theorem blk10 (st : Stmt) (hst : lawStmt? PySem.Challenge.rw_xy0002_02.row.toRowW.prog 9 = some st)
    (scope : Scope) (hsc : lawScope? PySem.Challenge.rw_xy0002_02.row.toRowW.prog = some scope)
    (w : World) (mean : ExcName → Option Value) (mg mb : Str → Option Value) (dp un : Nat) (gd : Option (List Code)) (a : Addr) (ccd : Value) (outer : List Env) (A₀ : Around) (base h₀ : Heap) (L : Addr) (m : Str → Option Value) (s : Shared) (E : Value → Shared → Prop) (news : Led)
    (c0 c1 c2 c3 c4 sl rg lr l0 l1 l2 : Addr) (o0 o1 o2 o3 o4 : Obj) (n : Nat) (q nb : Int) (tn tq tb : Tok) (svs vs0 vs1 vs2 : List Value) (sns r0 r1 r2 : List Int) (k0 k1 k2 kr : Nat) (v1 v2 v3 : Value)
    (B : Below A₀ base outer h₀) (hS : base.IsList sl svs.toArray) (X : (hd02.heap_39 w.params).In h₀) (T : Top Mine02.view (looseW Mine02.view []) mean mg mb h₀) (hdp : dp + 100 < recursionLimit) (hun : un + 800 < cLine)
    (hsi : IntsAre svs sns) (hsb : ∀ x ∈ sns, Builtin.Int.intBits x ≤ 2 ^ 20) (hsl : sns.length ≤ 63)
    (hc0 : (c0, o0) ∈ news) (hd0 : o0.data = .cell (some (.ref sl))) (hc1 : (c1, o1) ∈ news) (hd1 : o1.data = .cell (some (.int (n : Int) tn))) (hc2 : (c2, o2) ∈ news) (hd2 : o2.data = .cell (some (.ref rg))) (hc3 : (c3, o3) ∈ news) (hd3 : o3.data = .cell (some (.ref lr))) (hc4 : (c4, o4) ∈ news) (hd4 : o4.data = .cell (some (.int nb tb)))
    (h1n : 1 ≤ n) (hn : n ≤ 10) (hq : 2 ≤ q) (hq2 : q ≤ 10000) (hnb : Bd nb) (hr : RingIn news rg q n)
    (hrows : (lr, W.listOf #[.ref l0, .ref l1, .ref l2] kr) ∈ news) (hm0 : (l0, W.listOf vs0.toArray k0) ∈ news) (hm1 : (l1, W.listOf vs1.toArray k1) ∈ news) (hm2 : (l2, W.listOf vs2.toArray k2) ∈ news) (hi0 : IntsAre vs0 r0) (hi1 : IntsAre vs1 r1) (hi2 : IntsAre vs2 r2)
    (hl0 : r0.length = n) (hl1 : r1.length = n) (hl2 : r2.length = n) (hb0 : ∀ x ∈ r0, Bd x) (hb1 : ∀ x ∈ r1, Bd x) (hb2 : ∀ x ∈ r2, Bd x)
    (hmq : m (Str.ofString "q") = some (.int q tq)) (hm_1 : m (Str.ofString "one") = some v1) (hm_2 : m (Str.ofString "two") = some v2) (hm_3 : m (Str.ofString "three") = some v3)
    (hp1 : PolyIn news v1 rg r0) (hp2 : PolyIn news v2 rg r1) (hp3 : PolyIn news v3 rg r2)
    (F : Fr h₀ L s.heap m) (N : News h₀ L s.heap news) :
    wpAny (model PySem.Challenge.rw_xy0002_02.row.toRowW.prog w) (ktrTop dp un gd (Str.ofString "law") scope L a ccd [(Str.ofString "number", c4), (Str.ofString "rows", c3), (Str.ofString "ring", c2), (Str.ofString "n", c1), (Str.ofString "script", c0)] outer) (exec st (envX (Str.ofString "law") scope L a ccd [(Str.ofString "number", c4), (Str.ofString "rows", c3), (Str.ofString "ring", c2), (Str.ofString "n", c1), (Str.ofString "script", c0)])) (Stays h₀ L m news s) E s := by
  obtain rfl : _ = st := Option.some.inj (hst : some _ = some st)
  obtain rfl : _ = scope := Option.some.inj (hsc : some _ = some scope)
  clear hst hsc
  refine RingIn.elim hr ?_
  clear hr
  intro dr h1r k1r h2r k2r tqr tnr cr hr1 hr2
  refine PolyIn.elim hp1 ?_
  clear hp1
  intro f1 df1 ha1 ka1 hb1' kb1 a1 us1 ku1 cf1 eP9 ma1 mb1 mc1 ia1
  subst eP9
  refine PolyIn.elim hp2 ?_
  clear hp2
  intro f2 df2 ha2 ka2 hb2' kb2 a2 us2 ku2 cf2 eP9 ma2 mb2 mc2 ia2
  subst eP9
  refine PolyIn.elim hp3 ?_
  clear hp3
  intro f3 df3 ha3 ka3 hb3' kb3 a3 us3 ku3 cf3 eP9 ma3 mb3 mc3 ia3
  subst eP9
  revert X; k_fill; intro X
  k_steps
  all_goals first
    | exact Stays.intro (by k_asm) (by k_asm) (by intro p hp; k_mem)
    | skip
  all_goals (exfalso; rename ¬ ((_ : List Int) = _) => hne)
  exact hne (by rw [List.map_map]; rfl)
theorem walkOff24 : True := by
  w_top off
  trivial
set_option maxHeartbeats 4000000 in
theorem blk11 (st : Stmt) (hst : lawStmt? PySem.Challenge.rw_xy0002_02.row.toRowW.prog 10 = some st)
    (scope : Scope) (hsc : lawScope? PySem.Challenge.rw_xy0002_02.row.toRowW.prog = some scope)
    (w : World) (mean : ExcName → Option Value) (mg mb : Str → Option Value) (dp un : Nat) (gd : Option (List Code)) (a : Addr) (ccd : Value) (outer : List Env) (A₀ : Around) (base h₀ : Heap) (L : Addr) (m : Str → Option Value) (s : Shared) (E : Value → Shared → Prop) (news : Led)
    (c0 c1 c2 c3 c4 sl rg lr l0 l1 l2 : Addr) (o0 o1 o2 o3 o4 : Obj) (n : Nat) (q nb : Int) (tn tq tb : Tok) (svs vs0 vs1 vs2 : List Value) (sns r0 r1 r2 : List Int) (k0 k1 k2 kr : Nat) (v1 v2 v3 : Value)
    (B : Below A₀ base outer h₀) (hS : base.IsList sl svs.toArray) (X : (hd02.heap_39 w.params).In h₀) (T : Top Mine02.view (looseW Mine02.view []) mean mg mb h₀) (hdp : dp + 100 < recursionLimit) (hun : un + 800 < cLine)
    (hsi : IntsAre svs sns) (hsb : ∀ x ∈ sns, Builtin.Int.intBits x ≤ 2 ^ 20) (hsl : sns.length ≤ 63)
    (hc0 : (c0, o0) ∈ news) (hd0 : o0.data = .cell (some (.ref sl))) (hc1 : (c1, o1) ∈ news) (hd1 : o1.data = .cell (some (.int (n : Int) tn))) (hc2 : (c2, o2) ∈ news) (hd2 : o2.data = .cell (some (.ref rg))) (hc3 : (c3, o3) ∈ news) (hd3 : o3.data = .cell (some (.ref lr))) (hc4 : (c4, o4) ∈ news) (hd4 : o4.data = .cell (some (.int nb tb)))
    (h1n : 1 ≤ n) (hn : n ≤ 10) (hq : 2 ≤ q) (hq2 : q ≤ 10000) (hnb : Bd nb) (hr : RingIn news rg q n)
    (hrows : (lr, W.listOf #[.ref l0, .ref l1, .ref l2] kr) ∈ news) (hm0 : (l0, W.listOf vs0.toArray k0) ∈ news) (hm1 : (l1, W.listOf vs1.toArray k1) ∈ news) (hm2 : (l2, W.listOf vs2.toArray k2) ∈ news) (hi0 : IntsAre vs0 r0) (hi1 : IntsAre vs1 r1) (hi2 : IntsAre vs2 r2)
    (hl0 : r0.length = n) (hl1 : r1.length = n) (hl2 : r2.length = n) (hb0 : ∀ x ∈ r0, Bd x) (hb1 : ∀ x ∈ r1, Bd x) (hb2 : ∀ x ∈ r2, Bd x)
    (hmq : m (Str.ofString "q") = some (.int q tq)) (hm_1 : m (Str.ofString "one") = some v1) (hm_2 : m (Str.ofString "two") = some v2) (hm_3 : m (Str.ofString "three") = some v3)
    (hp1 : PolyIn news v1 rg r0) (hp2 : PolyIn news v2 rg r1) (hp3 : PolyIn news v3 rg r2)
    (F : Fr h₀ L s.heap m) (N : News h₀ L s.heap news) :
    wpAny (model PySem.Challenge.rw_xy0002_02.row.toRowW.prog w) (ktrTop dp un gd (Str.ofString "law") scope L a ccd [(Str.ofString "number", c4), (Str.ofString "rows", c3), (Str.ofString "ring", c2), (Str.ofString "n", c1), (Str.ofString "script", c0)] outer) (exec st (envX (Str.ofString "law") scope L a ccd [(Str.ofString "number", c4), (Str.ofString "rows", c3), (Str.ofString "ring", c2), (Str.ofString "n", c1), (Str.ofString "script", c0)])) (SetsName h₀ L m news s (Str.ofString "product") fun v nw => ListIn nw v (lprod q n r0 r1)) E s := by
  obtain rfl : _ = st := Option.some.inj (hst : some _ = some st)
  obtain rfl : _ = scope := Option.some.inj (hsc : some _ = some scope)
  clear hst hsc
  refine RingIn.elim hr ?_
  clear hr
  intro dr h1r k1r h2r k2r tqr tnr cr hr1 hr2
  refine PolyIn.elim hp1 ?_
  clear hp1
  intro f1 df1 ha1 ka1 hb1' kb1 a1 us1 ku1 cf1 eP9 ma1 mb1 mc1 ia1
  subst eP9
  refine PolyIn.elim hp2 ?_
  clear hp2
  intro f2 df2 ha2 ka2 hb2' kb2 a2 us2 ku2 cf2 eP9 ma2 mb2 mc2 ia2
  subst eP9
  refine PolyIn.elim hp3 ?_
  clear hp3
  intro f3 df3 ha3 ka3 hb3' kb3 a3 us3 ku3 cf3 eP9 ma3 mb3 mc3 ia3
  subst eP9
  revert X; k_fill; intro X
  k_steps
  exact SetsName.intro (by k_asm) (by k_asm) (by intro p hp; k_mem) ⟨_, _, _, rfl, by k_mem, by assumption⟩
theorem walkOff25 : True := by
  w_top off
  trivial
set_option maxHeartbeats 4000000 in
theorem blk12 (st : Stmt) (hst : lawStmt? PySem.Challenge.rw_xy0002_02.row.toRowW.prog 11 = some st)
    (scope : Scope) (hsc : lawScope? PySem.Challenge.rw_xy0002_02.row.toRowW.prog = some scope)
    (w : World) (mean : ExcName → Option Value) (mg mb : Str → Option Value) (dp un : Nat) (gd : Option (List Code)) (a : Addr) (ccd : Value) (outer : List Env) (A₀ : Around) (base h₀ : Heap) (L : Addr) (m : Str → Option Value) (s : Shared) (E : Value → Shared → Prop) (news : Led)
    (c0 c1 c2 c3 c4 sl rg lr l0 l1 l2 : Addr) (o0 o1 o2 o3 o4 : Obj) (n : Nat) (q nb : Int) (tn tq tb : Tok) (svs vs0 vs1 vs2 : List Value) (sns r0 r1 r2 : List Int) (k0 k1 k2 kr : Nat) (v1 v2 v3 : Value)
    (B : Below A₀ base outer h₀) (hS : base.IsList sl svs.toArray) (X : (hd02.heap_39 w.params).In h₀) (T : Top Mine02.view (looseW Mine02.view []) mean mg mb h₀) (hdp : dp + 100 < recursionLimit) (hun : un + 800 < cLine)
    (hsi : IntsAre svs sns) (hsb : ∀ x ∈ sns, Builtin.Int.intBits x ≤ 2 ^ 20) (hsl : sns.length ≤ 63)
    (hc0 : (c0, o0) ∈ news) (hd0 : o0.data = .cell (some (.ref sl))) (hc1 : (c1, o1) ∈ news) (hd1 : o1.data = .cell (some (.int (n : Int) tn))) (hc2 : (c2, o2) ∈ news) (hd2 : o2.data = .cell (some (.ref rg))) (hc3 : (c3, o3) ∈ news) (hd3 : o3.data = .cell (some (.ref lr))) (hc4 : (c4, o4) ∈ news) (hd4 : o4.data = .cell (some (.int nb tb)))
    (h1n : 1 ≤ n) (hn : n ≤ 10) (hq : 2 ≤ q) (hq2 : q ≤ 10000) (hnb : Bd nb) (hr : RingIn news rg q n)
    (hrows : (lr, W.listOf #[.ref l0, .ref l1, .ref l2] kr) ∈ news) (hm0 : (l0, W.listOf vs0.toArray k0) ∈ news) (hm1 : (l1, W.listOf vs1.toArray k1) ∈ news) (hm2 : (l2, W.listOf vs2.toArray k2) ∈ news) (hi0 : IntsAre vs0 r0) (hi1 : IntsAre vs1 r1) (hi2 : IntsAre vs2 r2)
    (hl0 : r0.length = n) (hl1 : r1.length = n) (hl2 : r2.length = n) (hb0 : ∀ x ∈ r0, Bd x) (hb1 : ∀ x ∈ r1, Bd x) (hb2 : ∀ x ∈ r2, Bd x)
    (hmq : m (Str.ofString "q") = some (.int q tq)) (hm_1 : m (Str.ofString "one") = some v1) (hm_2 : m (Str.ofString "two") = some v2) (hm_3 : m (Str.ofString "three") = some v3)
    (hp1 : PolyIn news v1 rg r0) (hp2 : PolyIn news v2 rg r1) (hp3 : PolyIn news v3 rg r2)
    (vp : Value) (hm_p : m (Str.ofString "product") = some vp) (hpp : ListIn news vp (lprod q n r0 r1))
    (F : Fr h₀ L s.heap m) (N : News h₀ L s.heap news) :
    wpAny (model PySem.Challenge.rw_xy0002_02.row.toRowW.prog w) (ktrTop dp un gd (Str.ofString "law") scope L a ccd [(Str.ofString "number", c4), (Str.ofString "rows", c3), (Str.ofString "ring", c2), (Str.ofString "n", c1), (Str.ofString "script", c0)] outer) (exec st (envX (Str.ofString "law") scope L a ccd [(Str.ofString "number", c4), (Str.ofString "rows", c3), (Str.ofString "ring", c2), (Str.ofString "n", c1), (Str.ofString "script", c0)])) (Stays h₀ L m news s) E s := by
  obtain rfl : _ = st := Option.some.inj (hst : some _ = some st)
  obtain rfl : _ = scope := Option.some.inj (hsc : some _ = some scope)
  clear hst hsc
  refine RingIn.elim hr ?_
  clear hr
  intro dr h1r k1r h2r k2r tqr tnr cr hr1 hr2
  refine PolyIn.elim hp1 ?_
  clear hp1
  intro f1 df1 ha1 ka1 hb1' kb1 a1 us1 ku1 cf1 eP9 ma1 mb1 mc1 ia1
  subst eP9
  refine PolyIn.elim hp2 ?_
  clear hp2
  intro f2 df2 ha2 ka2 hb2' kb2 a2 us2 ku2 cf2 eP9 ma2 mb2 mc2 ia2
  subst eP9
  refine PolyIn.elim hp3 ?_
  clear hp3
  intro f3 df3 ha3 ka3 hb3' kb3 a3 us3 ku3 cf3 eP9 ma3 mb3 mc3 ia3
  subst eP9
  revert X; k_fill; intro X
  obtain ⟨lp, vsp, kp, rfl, mp1, ip1⟩ := hpp
  k_steps
  all_goals first
    | exact Stays.intro (by k_asm) (by k_asm) (by intro p hp; k_mem)
    | skip
  all_goals (exfalso; rename ¬ ((_ : List Int) = _) => hne)
  all_goals first
    | exact hne rfl
    | exact hne (mulq_lprod h1n (by omega) r0 r1)
    | exact hne ((mulq_comm h1n (by omega) r1 r0).trans (mulq_lprod h1n (by omega) r0 r1))
theorem walkOff26 : True := by
  w_top off
  trivial
set_option maxHeartbeats 4000000 in
theorem blk13 (st : Stmt) (hst : lawStmt? PySem.Challenge.rw_xy0002_02.row.toRowW.prog 12 = some st)
    (scope : Scope) (hsc : lawScope? PySem.Challenge.rw_xy0002_02.row.toRowW.prog = some scope)
    (w : World) (mean : ExcName → Option Value) (mg mb : Str → Option Value) (dp un : Nat) (gd : Option (List Code)) (a : Addr) (ccd : Value) (outer : List Env) (A₀ : Around) (base h₀ : Heap) (L : Addr) (m : Str → Option Value) (s : Shared) (E : Value → Shared → Prop) (news : Led)
    (c0 c1 c2 c3 c4 sl rg lr l0 l1 l2 : Addr) (o0 o1 o2 o3 o4 : Obj) (n : Nat) (q nb : Int) (tn tq tb : Tok) (svs vs0 vs1 vs2 : List Value) (sns r0 r1 r2 : List Int) (k0 k1 k2 kr : Nat) (v1 v2 v3 : Value)
    (B : Below A₀ base outer h₀) (hS : base.IsList sl svs.toArray) (X : (hd02.heap_39 w.params).In h₀) (T : Top Mine02.view (looseW Mine02.view []) mean mg mb h₀) (hdp : dp + 100 < recursionLimit) (hun : un + 800 < cLine)
    (hsi : IntsAre svs sns) (hsb : ∀ x ∈ sns, Builtin.Int.intBits x ≤ 2 ^ 20) (hsl : sns.length ≤ 63)
    (hc0 : (c0, o0) ∈ news) (hd0 : o0.data = .cell (some (.ref sl))) (hc1 : (c1, o1) ∈ news) (hd1 : o1.data = .cell (some (.int (n : Int) tn))) (hc2 : (c2, o2) ∈ news) (hd2 : o2.data = .cell (some (.ref rg))) (hc3 : (c3, o3) ∈ news) (hd3 : o3.data = .cell (some (.ref lr))) (hc4 : (c4, o4) ∈ news) (hd4 : o4.data = .cell (some (.int nb tb)))
    (h1n : 1 ≤ n) (hn : n ≤ 10) (hq : 2 ≤ q) (hq2 : q ≤ 10000) (hnb : Bd nb) (hr : RingIn news rg q n)
    (hrows : (lr, W.listOf #[.ref l0, .ref l1, .ref l2] kr) ∈ news) (hm0 : (l0, W.listOf vs0.toArray k0) ∈ news) (hm1 : (l1, W.listOf vs1.toArray k1) ∈ news) (hm2 : (l2, W.listOf vs2.toArray k2) ∈ news) (hi0 : IntsAre vs0 r0) (hi1 : IntsAre vs1 r1) (hi2 : IntsAre vs2 r2)
    (hl0 : r0.length = n) (hl1 : r1.length = n) (hl2 : r2.length = n) (hb0 : ∀ x ∈ r0, Bd x) (hb1 : ∀ x ∈ r1, Bd x) (hb2 : ∀ x ∈ r2, Bd x)
    (hmq : m (Str.ofString "q") = some (.int q tq)) (hm_1 : m (Str.ofString "one") = some v1) (hm_2 : m (Str.ofString "two") = some v2) (hm_3 : m (Str.ofString "three") = some v3)
    (hp1 : PolyIn news v1 rg r0) (hp2 : PolyIn news v2 rg r1) (hp3 : PolyIn news v3 rg r2)
    (vp : Value) (hm_p : m (Str.ofString "product") = some vp) (hpp : ListIn news vp (lprod q n r0 r1))
    (F : Fr h₀ L s.heap m) (N : News h₀ L s.heap news) :
    wpAny (model PySem.Challenge.rw_xy0002_02.row.toRowW.prog w) (ktrTop dp un gd (Str.ofString "law") scope L a ccd [(Str.ofString "number", c4), (Str.ofString "rows", c3), (Str.ofString "ring", c2), (Str.ofString "n", c1), (Str.ofString "script", c0)] outer) (exec st (envX (Str.ofString "law") scope L a ccd [(Str.ofString "number", c4), (Str.ofString "rows", c3), (Str.ofString "ring", c2), (Str.ofString "n", c1), (Str.ofString "script", c0)])) (Stays h₀ L m news s) E s := by
  obtain rfl : _ = st := Option.some.inj (hst : some _ = some st)
  obtain rfl : _ = scope := Option.some.inj (hsc : some _ = some scope)
  clear hst hsc
  refine RingIn.elim hr ?_
  clear hr
  intro dr h1r k1r h2r k2r tqr tnr cr hr1 hr2
  refine PolyIn.elim hp1 ?_
  clear hp1
  intro f1 df1 ha1 ka1 hb1' kb1 a1 us1 ku1 cf1 eP9 ma1 mb1 mc1 ia1
  subst eP9
  refine PolyIn.elim hp2 ?_
  clear hp2
  intro f2 df2 ha2 ka2 hb2' kb2 a2 us2 ku2 cf2 eP9 ma2 mb2 mc2 ia2
  subst eP9
  refine PolyIn.elim hp3 ?_
  clear hp3
  intro f3 df3 ha3 ka3 hb3' kb3 a3 us3 ku3 cf3 eP9 ma3 mb3 mc3 ia3
  subst eP9
  revert X; k_fill; intro X
  obtain ⟨lp, vsp, kp, rfl, mp1, ip1⟩ := hpp
  k_steps
  all_goals first
    | exact Stays.intro (by k_asm) (by k_asm) (by intro p hp; k_mem)
    | skip
  all_goals (exfalso; rename ¬ ((_ : List Int) = _) => hne)
  all_goals first
    | exact hne (mulq_assoc h1n (by omega) r0 r1 r2)
    | exact hne (mulq_lprod2 h1n (by omega) r0 r1 r2)
theorem walkOff27 : True := by
  w_top off
  trivial
set_option maxHeartbeats 4000000 in
theorem blk14 (st : Stmt) (hst : lawStmt? PySem.Challenge.rw_xy0002_02.row.toRowW.prog 13 = some st)
    (scope : Scope) (hsc : lawScope? PySem.Challenge.rw_xy0002_02.row.toRowW.prog = some scope)
    (w : World) (mean : ExcName → Option Value) (mg mb : Str → Option Value) (dp un : Nat) (gd : Option (List Code)) (a : Addr) (ccd : Value) (outer : List Env) (A₀ : Around) (base h₀ : Heap) (L : Addr) (m : Str → Option Value) (s : Shared) (E : Value → Shared → Prop) (news : Led)
    (c0 c1 c2 c3 c4 sl rg lr l0 l1 l2 : Addr) (o0 o1 o2 o3 o4 : Obj) (n : Nat) (q nb : Int) (tn tq tb : Tok) (svs vs0 vs1 vs2 : List Value) (sns r0 r1 r2 : List Int) (k0 k1 k2 kr : Nat) (v1 v2 v3 : Value)
    (B : Below A₀ base outer h₀) (hS : base.IsList sl svs.toArray) (X : (hd02.heap_39 w.params).In h₀) (T : Top Mine02.view (looseW Mine02.view []) mean mg mb h₀) (hdp : dp + 100 < recursionLimit) (hun : un + 800 < cLine)
    (hsi : IntsAre svs sns) (hsb : ∀ x ∈ sns, Builtin.Int.intBits x ≤ 2 ^ 20) (hsl : sns.length ≤ 63)
    (hc0 : (c0, o0) ∈ news) (hd0 : o0.data = .cell (some (.ref sl))) (hc1 : (c1, o1) ∈ news) (hd1 : o1.data = .cell (some (.int (n : Int) tn))) (hc2 : (c2, o2) ∈ news) (hd2 : o2.data = .cell (some (.ref rg))) (hc3 : (c3, o3) ∈ news) (hd3 : o3.data = .cell (some (.ref lr))) (hc4 : (c4, o4) ∈ news) (hd4 : o4.data = .cell (some (.int nb tb)))
    (h1n : 1 ≤ n) (hn : n ≤ 10) (hq : 2 ≤ q) (hq2 : q ≤ 10000) (hnb : Bd nb) (hr : RingIn news rg q n)
    (hrows : (lr, W.listOf #[.ref l0, .ref l1, .ref l2] kr) ∈ news) (hm0 : (l0, W.listOf vs0.toArray k0) ∈ news) (hm1 : (l1, W.listOf vs1.toArray k1) ∈ news) (hm2 : (l2, W.listOf vs2.toArray k2) ∈ news) (hi0 : IntsAre vs0 r0) (hi1 : IntsAre vs1 r1) (hi2 : IntsAre vs2 r2)
    (hl0 : r0.length = n) (hl1 : r1.length = n) (hl2 : r2.length = n) (hb0 : ∀ x ∈ r0, Bd x) (hb1 : ∀ x ∈ r1, Bd x) (hb2 : ∀ x ∈ r2, Bd x)
    (hmq : m (Str.ofString "q") = some (.int q tq)) (hm_1 : m (Str.ofString "one") = some v1) (hm_2 : m (Str.ofString "two") = some v2) (hm_3 : m (Str.ofString "three") = some v3)
    (hp1 : PolyIn news v1 rg r0) (hp2 : PolyIn news v2 rg r1) (hp3 : PolyIn news v3 rg r2)
    (F : Fr h₀ L s.heap m) (N : News h₀ L s.heap news) :
    wpAny (model PySem.Challenge.rw_xy0002_02.row.toRowW.prog w) (ktrTop dp un gd (Str.ofString "law") scope L a ccd [(Str.ofString "number", c4), (Str.ofString "rows", c3), (Str.ofString "ring", c2), (Str.ofString "n", c1), (Str.ofString "script", c0)] outer) (exec st (envX (Str.ofString "law") scope L a ccd [(Str.ofString "number", c4), (Str.ofString "rows", c3), (Str.ofString "ring", c2), (Str.ofString "n", c1), (Str.ofString "script", c0)])) (Stays h₀ L m news s) E s := by
  obtain rfl : _ = st := Option.some.inj (hst : some _ = some st)
  obtain rfl : _ = scope := Option.some.inj (hsc : some _ = some scope)
  clear hst hsc
  refine RingIn.elim hr ?_
  clear hr
  intro dr h1r k1r h2r k2r tqr tnr cr hr1 hr2
  refine PolyIn.elim hp1 ?_
  clear hp1
  intro f1 df1 ha1 ka1 hb1' kb1 a1 us1 ku1 cf1 eP9 ma1 mb1 mc1 ia1
  subst eP9
  refine PolyIn.elim hp2 ?_
  clear hp2
  intro f2 df2 ha2 ka2 hb2' kb2 a2 us2 ku2 cf2 eP9 ma2 mb2 mc2 ia2
  subst eP9
  refine PolyIn.elim hp3 ?_
  clear hp3
  intro f3 df3 ha3 ka3 hb3' kb3 a3 us3 ku3 cf3 eP9 ma3 mb3 mc3 ia3
  subst eP9
  revert X; k_fill; intro X
  k_steps
  all_goals first
    | exact Stays.intro (by k_asm) (by k_asm) (by intro p hp; k_mem)
    | skip
  all_goals (exfalso; rename ¬ ((_ : List Int) = _) => hne)
  all_goals first
    | exact hne (mulq_add h1n (by omega) hl1 hl2)
    | exact hne (mulq_sub_l h1n (by omega) hl0 hl1)
theorem walkOff28 : True := by
  w_top off
  trivial
set_option maxHeartbeats 4000000 in
theorem blk15 (st : Stmt) (hst : lawStmt? PySem.Challenge.rw_xy0002_02.row.toRowW.prog 14 = some st)
    (scope : Scope) (hsc : lawScope? PySem.Challenge.rw_xy0002_02.row.toRowW.prog = some scope)
    (w : World) (mean : ExcName → Option Value) (mg mb : Str → Option Value) (dp un : Nat) (gd : Option (List Code)) (a : Addr) (ccd : Value) (outer : List Env) (A₀ : Around) (base h₀ : Heap) (L : Addr) (m : Str → Option Value) (s : Shared) (E : Value → Shared → Prop) (news : Led)
    (c0 c1 c2 c3 c4 sl rg lr l0 l1 l2 : Addr) (o0 o1 o2 o3 o4 : Obj) (n : Nat) (q nb : Int) (tn tq tb : Tok) (svs vs0 vs1 vs2 : List Value) (sns r0 r1 r2 : List Int) (k0 k1 k2 kr : Nat) (v1 v2 v3 : Value)
    (B : Below A₀ base outer h₀) (hS : base.IsList sl svs.toArray) (X : (hd02.heap_39 w.params).In h₀) (T : Top Mine02.view (looseW Mine02.view []) mean mg mb h₀) (hdp : dp + 100 < recursionLimit) (hun : un + 800 < cLine)
    (hsi : IntsAre svs sns) (hsb : ∀ x ∈ sns, Builtin.Int.intBits x ≤ 2 ^ 20) (hsl : sns.length ≤ 63)
    (hc0 : (c0, o0) ∈ news) (hd0 : o0.data = .cell (some (.ref sl))) (hc1 : (c1, o1) ∈ news) (hd1 : o1.data = .cell (some (.int (n : Int) tn))) (hc2 : (c2, o2) ∈ news) (hd2 : o2.data = .cell (some (.ref rg))) (hc3 : (c3, o3) ∈ news) (hd3 : o3.data = .cell (some (.ref lr))) (hc4 : (c4, o4) ∈ news) (hd4 : o4.data = .cell (some (.int nb tb)))
    (h1n : 1 ≤ n) (hn : n ≤ 10) (hq : 2 ≤ q) (hq2 : q ≤ 10000) (hnb : Bd nb) (hr : RingIn news rg q n)
    (hrows : (lr, W.listOf #[.ref l0, .ref l1, .ref l2] kr) ∈ news) (hm0 : (l0, W.listOf vs0.toArray k0) ∈ news) (hm1 : (l1, W.listOf vs1.toArray k1) ∈ news) (hm2 : (l2, W.listOf vs2.toArray k2) ∈ news) (hi0 : IntsAre vs0 r0) (hi1 : IntsAre vs1 r1) (hi2 : IntsAre vs2 r2)
    (hl0 : r0.length = n) (hl1 : r1.length = n) (hl2 : r2.length = n) (hb0 : ∀ x ∈ r0, Bd x) (hb1 : ∀ x ∈ r1, Bd x) (hb2 : ∀ x ∈ r2, Bd x)
    (hmq : m (Str.ofString "q") = some (.int q tq)) (hm_1 : m (Str.ofString "one") = some v1) (hm_2 : m (Str.ofString "two") = some v2) (hm_3 : m (Str.ofString "three") = some v3)
    (hp1 : PolyIn news v1 rg r0) (hp2 : PolyIn news v2 rg r1) (hp3 : PolyIn news v3 rg r2)
    (F : Fr h₀ L s.heap m) (N : News h₀ L s.heap news) :
    wpAny (model PySem.Challenge.rw_xy0002_02.row.toRowW.prog w) (ktrTop dp un gd (Str.ofString "law") scope L a ccd [(Str.ofString "number", c4), (Str.ofString "rows", c3), (Str.ofString "ring", c2), (Str.ofString "n", c1), (Str.ofString "script", c0)] outer) (exec st (envX (Str.ofString "law") scope L a ccd [(Str.ofString "number", c4), (Str.ofString "rows", c3), (Str.ofString "ring", c2), (Str.ofString "n", c1), (Str.ofString "script", c0)])) (SetsName h₀ L m news s (Str.ofString "rests") fun v nw => PolyIn nw v rg (r0.map fun x => Int.fmod x q)) E s := by
  obtain rfl : _ = st := Option.some.inj (hst : some _ = some st)
  obtain rfl : _ = scope := Option.some.inj (hsc : some _ = some scope)
  clear hst hsc
  refine RingIn.elim hr ?_
  clear hr
  intro dr h1r k1r h2r k2r tqr tnr cr hr1 hr2
  refine PolyIn.elim hp1 ?_
  clear hp1
  intro f1 df1 ha1 ka1 hb1' kb1 a1 us1 ku1 cf1 eP9 ma1 mb1 mc1 ia1
  subst eP9
  refine PolyIn.elim hp2 ?_
  clear hp2
  intro f2 df2 ha2 ka2 hb2' kb2 a2 us2 ku2 cf2 eP9 ma2 mb2 mc2 ia2
  subst eP9
  refine PolyIn.elim hp3 ?_
  clear hp3
  intro f3 df3 ha3 ka3 hb3' kb3 a3 us3 ku3 cf3 eP9 ma3 mb3 mc3 ia3
  subst eP9
  revert X; k_fill; intro X
  k_steps
  exact SetsName.intro (by k_asm) (by k_asm) (by intro p hp; k_mem) ⟨_, _, _, _, _, _, _, _, _, _, rfl, by k_mem, by k_mem, by k_mem, by have h := ‹IntsAre _ (_ ++ _)›; simpa [hl0] using h⟩
theorem walkOff29 : True := by
  w_top off
  trivial
set_option maxHeartbeats 4000000 in
theorem blk16 (st : Stmt) (hst : lawStmt? PySem.Challenge.rw_xy0002_02.row.toRowW.prog 15 = some st)
    (scope : Scope) (hsc : lawScope? PySem.Challenge.rw_xy0002_02.row.toRowW.prog = some scope)
    (w : World) (mean : ExcName → Option Value) (mg mb : Str → Option Value) (dp un : Nat) (gd : Option (List Code)) (a : Addr) (ccd : Value) (outer : List Env) (A₀ : Around) (base h₀ : Heap) (L : Addr) (m : Str → Option Value) (s : Shared) (E : Value → Shared → Prop) (news : Led)
    (c0 c1 c2 c3 c4 sl rg lr l0 l1 l2 : Addr) (o0 o1 o2 o3 o4 : Obj) (n : Nat) (q nb : Int) (tn tq tb : Tok) (svs vs0 vs1 vs2 : List Value) (sns r0 r1 r2 : List Int) (k0 k1 k2 kr : Nat) (v1 v2 v3 : Value)
    (B : Below A₀ base outer h₀) (hS : base.IsList sl svs.toArray) (X : (hd02.heap_39 w.params).In h₀) (T : Top Mine02.view (looseW Mine02.view []) mean mg mb h₀) (hdp : dp + 100 < recursionLimit) (hun : un + 800 < cLine)
    (hsi : IntsAre svs sns) (hsb : ∀ x ∈ sns, Builtin.Int.intBits x ≤ 2 ^ 20) (hsl : sns.length ≤ 63)
    (hc0 : (c0, o0) ∈ news) (hd0 : o0.data = .cell (some (.ref sl))) (hc1 : (c1, o1) ∈ news) (hd1 : o1.data = .cell (some (.int (n : Int) tn))) (hc2 : (c2, o2) ∈ news) (hd2 : o2.data = .cell (some (.ref rg))) (hc3 : (c3, o3) ∈ news) (hd3 : o3.data = .cell (some (.ref lr))) (hc4 : (c4, o4) ∈ news) (hd4 : o4.data = .cell (some (.int nb tb)))
    (h1n : 1 ≤ n) (hn : n ≤ 10) (hq : 2 ≤ q) (hq2 : q ≤ 10000) (hnb : Bd nb) (hr : RingIn news rg q n)
    (hrows : (lr, W.listOf #[.ref l0, .ref l1, .ref l2] kr) ∈ news) (hm0 : (l0, W.listOf vs0.toArray k0) ∈ news) (hm1 : (l1, W.listOf vs1.toArray k1) ∈ news) (hm2 : (l2, W.listOf vs2.toArray k2) ∈ news) (hi0 : IntsAre vs0 r0) (hi1 : IntsAre vs1 r1) (hi2 : IntsAre vs2 r2)
    (hl0 : r0.length = n) (hl1 : r1.length = n) (hl2 : r2.length = n) (hb0 : ∀ x ∈ r0, Bd x) (hb1 : ∀ x ∈ r1, Bd x) (hb2 : ∀ x ∈ r2, Bd x)
    (hmq : m (Str.ofString "q") = some (.int q tq)) (hm_1 : m (Str.ofString "one") = some v1) (hm_2 : m (Str.ofString "two") = some v2) (hm_3 : m (Str.ofString "three") = some v3)
    (hp1 : PolyIn news v1 rg r0) (hp2 : PolyIn news v2 rg r1) (hp3 : PolyIn news v3 rg r2)
    (vr : Value) (hm_r : m (Str.ofString "rests") = some vr) (hpr : PolyIn news vr rg (r0.map fun x => Int.fmod x q))
    (F : Fr h₀ L s.heap m) (N : News h₀ L s.heap news) :
    wpAny (model PySem.Challenge.rw_xy0002_02.row.toRowW.prog w) (ktrTop dp un gd (Str.ofString "law") scope L a ccd [(Str.ofString "number", c4), (Str.ofString "rows", c3), (Str.ofString "ring", c2), (Str.ofString "n", c1), (Str.ofString "script", c0)] outer) (exec st (envX (Str.ofString "law") scope L a ccd [(Str.ofString "number", c4), (Str.ofString "rows", c3), (Str.ofString "ring", c2), (Str.ofString "n", c1), (Str.ofString "script", c0)])) (Stays h₀ L m news s) E s := by
  obtain rfl : _ = st := Option.some.inj (hst : some _ = some st)
  obtain rfl : _ = scope := Option.some.inj (hsc : some _ = some scope)
  clear hst hsc
  refine RingIn.elim hr ?_
  clear hr
  intro dr h1r k1r h2r k2r tqr tnr cr hr1 hr2
  refine PolyIn.elim hp1 ?_
  clear hp1
  intro f1 df1 ha1 ka1 hb1' kb1 a1 us1 ku1 cf1 eP9 ma1 mb1 mc1 ia1
  subst eP9
  refine PolyIn.elim hp2 ?_
  clear hp2
  intro f2 df2 ha2 ka2 hb2' kb2 a2 us2 ku2 cf2 eP9 ma2 mb2 mc2 ia2
  subst eP9
  refine PolyIn.elim hp3 ?_
  clear hp3
  intro f3 df3 ha3 ka3 hb3' kb3 a3 us3 ku3 cf3 eP9 ma3 mb3 mc3 ia3
  subst eP9
  revert X; k_fill; intro X
  refine PolyIn.elim hpr ?_
  clear hpr
  intro fr dfr har kar hbr kbr ar usr kur cfr eP9 mar mbr mcr iar
  subst eP9
  obtain ⟨x0, xs, rfl⟩ : ∃ x0 xs, r0 = x0 :: xs := by cases r0 with | nil => simp at hl0; omega | cons a b => exact ⟨a, b, rfl⟩
  k_steps
  all_goals first
    | exact Stays.intro (by k_asm) (by k_asm) (by intro p hp; k_mem)
    | skip
  all_goals exfalso
  · rename (((_ : Int) :: _ : List Int) = List.map _ _) => heq
    exact fmod_one_ne hq x0 (List.cons.inj heq).1
  · rename (List.map _ _ = [(1 : Int)] ++ _) => heq
    have h0 := (List.cons.inj heq).1
    simp at h0
  · rename ¬ ((_ : List Int) = _) => hne
    refine hne ?_
    rw [← hl0]
    exact List.eq_replicate_iff.mpr ⟨by simp, by intro x hx; obtain ⟨y, _, rfl⟩ := List.mem_map.mp hx; simp⟩
  · rename ¬ ((_ : List Int) = _) => hne
    refine hne ?_
    simp
theorem walkOff30 : True := by
  w_top off
  trivial
set_option maxHeartbeats 4000000 in
theorem blk19 (st : Stmt) (hst : lawStmt? PySem.Challenge.rw_xy0002_02.row.toRowW.prog 18 = some st)
    (scope : Scope) (hsc : lawScope? PySem.Challenge.rw_xy0002_02.row.toRowW.prog = some scope)
    (w : World) (mean : ExcName → Option Value) (mg mb : Str → Option Value) (dp un : Nat) (gd : Option (List Code)) (a : Addr) (ccd : Value) (outer : List Env) (A₀ : Around) (base h₀ : Heap) (L : Addr) (m : Str → Option Value) (s : Shared) (E : Value → Shared → Prop) (news : Led)
    (c0 c1 c2 c3 c4 sl rg lr l0 l1 l2 : Addr) (o0 o1 o2 o3 o4 : Obj) (n : Nat) (q nb : Int) (tn tq tb : Tok) (svs vs0 vs1 vs2 : List Value) (sns r0 r1 r2 : List Int) (k0 k1 k2 kr : Nat) (v1 v2 v3 : Value)
    (B : Below A₀ base outer h₀) (hS : base.IsList sl svs.toArray) (X : (hd02.heap_39 w.params).In h₀) (T : Top Mine02.view (looseW Mine02.view []) mean mg mb h₀) (hdp : dp + 100 < recursionLimit) (hun : un + 800 < cLine)
    (hsi : IntsAre svs sns) (hsb : ∀ x ∈ sns, Builtin.Int.intBits x ≤ 2 ^ 20) (hsl : sns.length ≤ 63)
    (hc0 : (c0, o0) ∈ news) (hd0 : o0.data = .cell (some (.ref sl))) (hc1 : (c1, o1) ∈ news) (hd1 : o1.data = .cell (some (.int (n : Int) tn))) (hc2 : (c2, o2) ∈ news) (hd2 : o2.data = .cell (some (.ref rg))) (hc3 : (c3, o3) ∈ news) (hd3 : o3.data = .cell (some (.ref lr))) (hc4 : (c4, o4) ∈ news) (hd4 : o4.data = .cell (some (.int nb tb)))
    (h1n : 1 ≤ n) (hn : n ≤ 10) (hq : 2 ≤ q) (hq2 : q ≤ 10000) (hnb : Bd nb) (hr : RingIn news rg q n)
    (hrows : (lr, W.listOf #[.ref l0, .ref l1, .ref l2] kr) ∈ news) (hm0 : (l0, W.listOf vs0.toArray k0) ∈ news) (hm1 : (l1, W.listOf vs1.toArray k1) ∈ news) (hm2 : (l2, W.listOf vs2.toArray k2) ∈ news) (hi0 : IntsAre vs0 r0) (hi1 : IntsAre vs1 r1) (hi2 : IntsAre vs2 r2)
    (hl0 : r0.length = n) (hl1 : r1.length = n) (hl2 : r2.length = n) (hb0 : ∀ x ∈ r0, Bd x) (hb1 : ∀ x ∈ r1, Bd x) (hb2 : ∀ x ∈ r2, Bd x)
    (hmq : m (Str.ofString "q") = some (.int q tq)) (hm_1 : m (Str.ofString "one") = some v1) (hm_2 : m (Str.ofString "two") = some v2) (hm_3 : m (Str.ofString "three") = some v3)
    (hp1 : PolyIn news v1 rg r0) (hp2 : PolyIn news v2 rg r1) (hp3 : PolyIn news v3 rg r2)
    (e1 e2 : Nat) (te1 te2 : Tok) (hm_f : m (Str.ofString "first") = some (.int (e1 : Int) te1)) (hm_s : m (Str.ofString "second") = some (.int (e2 : Int) te2)) (he1 : e1 < 6) (he2 : e2 < 5)
    (F : Fr h₀ L s.heap m) (N : News h₀ L s.heap news) :
    wpAny (model PySem.Challenge.rw_xy0002_02.row.toRowW.prog w) (ktrTop dp un gd (Str.ofString "law") scope L a ccd [(Str.ofString "number", c4), (Str.ofString "rows", c3), (Str.ofString "ring", c2), (Str.ofString "n", c1), (Str.ofString "script", c0)] outer) (exec st (envX (Str.ofString "law") scope L a ccd [(Str.ofString "number", c4), (Str.ofString "rows", c3), (Str.ofString "ring", c2), (Str.ofString "n", c1), (Str.ofString "script", c0)])) (SetsName h₀ L m news s (Str.ofString "power") fun v nw => PolyIn nw v rg (powL q n (1 :: List.replicate (n - 1) 0) r0 (e1 + e2))) E s := by
  obtain rfl : _ = st := Option.some.inj (hst : some _ = some st)
  obtain rfl : _ = scope := Option.some.inj (hsc : some _ = some scope)
  clear hst hsc
  refine RingIn.elim hr ?_
  clear hr
  intro dr h1r k1r h2r k2r tqr tnr cr hr1 hr2
  refine PolyIn.elim hp1 ?_
  clear hp1
  intro f1 df1 ha1 ka1 hb1' kb1 a1 us1 ku1 cf1 eP9 ma1 mb1 mc1 ia1
  subst eP9
  refine PolyIn.elim hp2 ?_
  clear hp2
  intro f2 df2 ha2 ka2 hb2' kb2 a2 us2 ku2 cf2 eP9 ma2 mb2 mc2 ia2
  subst eP9
  refine PolyIn.elim hp3 ?_
  clear hp3
  intro f3 df3 ha3 ka3 hb3' kb3 a3 us3 ku3 cf3 eP9 ma3 mb3 mc3 ia3
  subst eP9
  revert X; k_fill; intro X
  k_steps
  exact SetsName.intro (by k_asm) (by k_asm) (by intro p hp; k_mem) ⟨_, _, _, _, _, _, _, _, _, _, rfl, by k_mem, by k_mem, by k_mem, by assumption⟩
theorem walkOff31 : True := by
  w_top off
  trivial
set_option maxHeartbeats 4000000 in
theorem blk20 (st : Stmt) (hst : lawStmt? PySem.Challenge.rw_xy0002_02.row.toRowW.prog 19 = some st)
    (scope : Scope) (hsc : lawScope? PySem.Challenge.rw_xy0002_02.row.toRowW.prog = some scope)
    (w : World) (mean : ExcName → Option Value) (mg mb : Str → Option Value) (dp un : Nat) (gd : Option (List Code)) (a : Addr) (ccd : Value) (outer : List Env) (A₀ : Around) (base h₀ : Heap) (L : Addr) (m : Str → Option Value) (s : Shared) (E : Value → Shared → Prop) (news : Led)
    (c0 c1 c2 c3 c4 sl rg lr l0 l1 l2 : Addr) (o0 o1 o2 o3 o4 : Obj) (n : Nat) (q nb : Int) (tn tq tb : Tok) (svs vs0 vs1 vs2 : List Value) (sns r0 r1 r2 : List Int) (k0 k1 k2 kr : Nat) (v1 v2 v3 : Value)
    (B : Below A₀ base outer h₀) (hS : base.IsList sl svs.toArray) (X : (hd02.heap_39 w.params).In h₀) (T : Top Mine02.view (looseW Mine02.view []) mean mg mb h₀) (hdp : dp + 100 < recursionLimit) (hun : un + 800 < cLine)
    (hsi : IntsAre svs sns) (hsb : ∀ x ∈ sns, Builtin.Int.intBits x ≤ 2 ^ 20) (hsl : sns.length ≤ 63)
    (hc0 : (c0, o0) ∈ news) (hd0 : o0.data = .cell (some (.ref sl))) (hc1 : (c1, o1) ∈ news) (hd1 : o1.data = .cell (some (.int (n : Int) tn))) (hc2 : (c2, o2) ∈ news) (hd2 : o2.data = .cell (some (.ref rg))) (hc3 : (c3, o3) ∈ news) (hd3 : o3.data = .cell (some (.ref lr))) (hc4 : (c4, o4) ∈ news) (hd4 : o4.data = .cell (some (.int nb tb)))
    (h1n : 1 ≤ n) (hn : n ≤ 10) (hq : 2 ≤ q) (hq2 : q ≤ 10000) (hnb : Bd nb) (hr : RingIn news rg q n)
    (hrows : (lr, W.listOf #[.ref l0, .ref l1, .ref l2] kr) ∈ news) (hm0 : (l0, W.listOf vs0.toArray k0) ∈ news) (hm1 : (l1, W.listOf vs1.toArray k1) ∈ news) (hm2 : (l2, W.listOf vs2.toArray k2) ∈ news) (hi0 : IntsAre vs0 r0) (hi1 : IntsAre vs1 r1) (hi2 : IntsAre vs2 r2)
    (hl0 : r0.length = n) (hl1 : r1.length = n) (hl2 : r2.length = n) (hb0 : ∀ x ∈ r0, Bd x) (hb1 : ∀ x ∈ r1, Bd x) (hb2 : ∀ x ∈ r2, Bd x)
    (hmq : m (Str.ofString "q") = some (.int q tq)) (hm_1 : m (Str.ofString "one") = some v1) (hm_2 : m (Str.ofString "two") = some v2) (hm_3 : m (Str.ofString "three") = some v3)
    (hp1 : PolyIn news v1 rg r0) (hp2 : PolyIn news v2 rg r1) (hp3 : PolyIn news v3 rg r2)
    (e1 e2 : Nat) (te1 te2 : Tok) (hm_f : m (Str.ofString "first") = some (.int (e1 : Int) te1)) (hm_s : m (Str.ofString "second") = some (.int (e2 : Int) te2)) (he1 : e1 < 6) (he2 : e2 < 5) (vw : Value) (hm_w : m (Str.ofString "power") = some vw) (hpw : PolyIn news vw rg (powL q n (1 :: List.replicate (n - 1) 0) r0 (e1 + e2)))
    (F : Fr h₀ L s.heap m) (N : News h₀ L s.heap news) :
    wpAny (model PySem.Challenge.rw_xy0002_02.row.toRowW.prog w) (ktrTop dp un gd (Str.ofString "law") scope L a ccd [(Str.ofString "number", c4), (Str.ofString "rows", c3), (Str.ofString "ring", c2), (Str.ofString "n", c1), (Str.ofString "script", c0)] outer) (exec st (envX (Str.ofString "law") scope L a ccd [(Str.ofString "number", c4), (Str.ofString "rows", c3), (Str.ofString "ring", c2), (Str.ofString "n", c1), (Str.ofString "script", c0)])) (Stays h₀ L m news s) E s := by
  obtain rfl : _ = st := Option.some.inj (hst : some _ = some st)
  obtain rfl : _ = scope := Option.some.inj (hsc : some _ = some scope)
  clear hst hsc
  refine RingIn.elim hr ?_
  clear hr
  intro dr h1r k1r h2r k2r tqr tnr cr hr1 hr2
  refine PolyIn.elim hp1 ?_
  clear hp1
  intro f1 df1 ha1 ka1 hb1' kb1 a1 us1 ku1 cf1 eP9 ma1 mb1 mc1 ia1
  subst eP9
  refine PolyIn.elim hp2 ?_
  clear hp2
  intro f2 df2 ha2 ka2 hb2' kb2 a2 us2 ku2 cf2 eP9 ma2 mb2 mc2 ia2
  subst eP9
  refine PolyIn.elim hp3 ?_
  clear hp3
  intro f3 df3 ha3 ka3 hb3' kb3 a3 us3 ku3 cf3 eP9 ma3 mb3 mc3 ia3
  subst eP9
  revert X; k_fill; intro X
  refine PolyIn.elim hpw ?_
  clear hpw
  intro fw dfw haw kaw hbw kbw aw usw kuw cfw eP9 maw mbw mcw iaw
  subst eP9
  have hLw : (powL q n (1 :: List.replicate (n - 1) 0) r0 (e1 + e2)).length = n := powL_len q h1n hl0 _
  k_steps
  all_goals first
    | exact Stays.intro (by k_asm) (by k_asm) (by intro p hp; k_mem)
    | skip
  all_goals (exfalso; rename ¬ ((_ : List Int) = _) => hne)
  exact hne (power_eq h1n (by omega) hl0 (e1 + e2))
theorem walkOff32 : True := by
  w_top off
  trivial
set_option maxHeartbeats 4000000 in
theorem blk21 (st : Stmt) (hst : lawStmt? PySem.Challenge.rw_xy0002_02.row.toRowW.prog 20 = some st)
    (scope : Scope) (hsc : lawScope? PySem.Challenge.rw_xy0002_02.row.toRowW.prog = some scope)
    (w : World) (mean : ExcName → Option Value) (mg mb : Str → Option Value) (dp un : Nat) (gd : Option (List Code)) (a : Addr) (ccd : Value) (outer : List Env) (A₀ : Around) (base h₀ : Heap) (L : Addr) (m : Str → Option Value) (s : Shared) (E : Value → Shared → Prop) (news : Led)
    (c0 c1 c2 c3 c4 sl rg lr l0 l1 l2 : Addr) (o0 o1 o2 o3 o4 : Obj) (n : Nat) (q nb : Int) (tn tq tb : Tok) (svs vs0 vs1 vs2 : List Value) (sns r0 r1 r2 : List Int) (k0 k1 k2 kr : Nat) (v1 v2 v3 : Value)
    (B : Below A₀ base outer h₀) (hS : base.IsList sl svs.toArray) (X : (hd02.heap_39 w.params).In h₀) (T : Top Mine02.view (looseW Mine02.view []) mean mg mb h₀) (hdp : dp + 100 < recursionLimit) (hun : un + 800 < cLine)
    (hsi : IntsAre svs sns) (hsb : ∀ x ∈ sns, Builtin.Int.intBits x ≤ 2 ^ 20) (hsl : sns.length ≤ 63)
    (hc0 : (c0, o0) ∈ news) (hd0 : o0.data = .cell (some (.ref sl))) (hc1 : (c1, o1) ∈ news) (hd1 : o1.data = .cell (some (.int (n : Int) tn))) (hc2 : (c2, o2) ∈ news) (hd2 : o2.data = .cell (some (.ref rg))) (hc3 : (c3, o3) ∈ news) (hd3 : o3.data = .cell (some (.ref lr))) (hc4 : (c4, o4) ∈ news) (hd4 : o4.data = .cell (some (.int nb tb)))
    (h1n : 1 ≤ n) (hn : n ≤ 10) (hq : 2 ≤ q) (hq2 : q ≤ 10000) (hnb : Bd nb) (hr : RingIn news rg q n)
    (hrows : (lr, W.listOf #[.ref l0, .ref l1, .ref l2] kr) ∈ news) (hm0 : (l0, W.listOf vs0.toArray k0) ∈ news) (hm1 : (l1, W.listOf vs1.toArray k1) ∈ news) (hm2 : (l2, W.listOf vs2.toArray k2) ∈ news) (hi0 : IntsAre vs0 r0) (hi1 : IntsAre vs1 r1) (hi2 : IntsAre vs2 r2)
    (hl0 : r0.length = n) (hl1 : r1.length = n) (hl2 : r2.length = n) (hb0 : ∀ x ∈ r0, Bd x) (hb1 : ∀ x ∈ r1, Bd x) (hb2 : ∀ x ∈ r2, Bd x)
    (hmq : m (Str.ofString "q") = some (.int q tq)) (hm_1 : m (Str.ofString "one") = some v1) (hm_2 : m (Str.ofString "two") = some v2) (hm_3 : m (Str.ofString "three") = some v3)
    (hp1 : PolyIn news v1 rg r0) (hp2 : PolyIn news v2 rg r1) (hp3 : PolyIn news v3 rg r2)
    (e1 e2 : Nat) (te1 te2 : Tok) (hm_f : m (Str.ofString "first") = some (.int (e1 : Int) te1)) (hm_s : m (Str.ofString "second") = some (.int (e2 : Int) te2)) (he1 : e1 < 6) (he2 : e2 < 5)
    (F : Fr h₀ L s.heap m) (N : News h₀ L s.heap news) :
    wpAny (model PySem.Challenge.rw_xy0002_02.row.toRowW.prog w) (ktrTop dp un gd (Str.ofString "law") scope L a ccd [(Str.ofString "number", c4), (Str.ofString "rows", c3), (Str.ofString "ring", c2), (Str.ofString "n", c1), (Str.ofString "script", c0)] outer) (exec st (envX (Str.ofString "law") scope L a ccd [(Str.ofString "number", c4), (Str.ofString "rows", c3), (Str.ofString "ring", c2), (Str.ofString "n", c1), (Str.ofString "script", c0)])) (Stays h₀ L m news s) E s := by
  obtain rfl : _ = st := Option.some.inj (hst : some _ = some st)
  obtain rfl : _ = scope := Option.some.inj (hsc : some _ = some scope)
  clear hst hsc
  refine RingIn.elim hr ?_
  clear hr
  intro dr h1r k1r h2r k2r tqr tnr cr hr1 hr2
  refine PolyIn.elim hp1 ?_
  clear hp1
  intro f1 df1 ha1 ka1 hb1' kb1 a1 us1 ku1 cf1 eP9 ma1 mb1 mc1 ia1
  subst eP9
  refine PolyIn.elim hp2 ?_
  clear hp2
  intro f2 df2 ha2 ka2 hb2' kb2 a2 us2 ku2 cf2 eP9 ma2 mb2 mc2 ia2
  subst eP9
  refine PolyIn.elim hp3 ?_
  clear hp3
  intro f3 df3 ha3 ka3 hb3' kb3 a3 us3 ku3 cf3 eP9 ma3 mb3 mc3 ia3
  subst eP9
  revert X; k_fill; intro X
  k_steps
  all_goals first
    | exact Stays.intro (by k_asm) (by k_asm) (by intro p hp; k_mem)
    | skip
  all_goals (exfalso; rename ¬ ((_ : List Int) = _) => hne)
  exact hne (powers_eq h1n (by omega) e1 e2)
theorem walkOff33 : True := by
  w_top off
  trivial
set_option maxHeartbeats 4000000 in
theorem blk24 (st : Stmt) (hst : lawStmt? PySem.Challenge.rw_xy0002_02.row.toRowW.prog 23 = some st)
    (scope : Scope) (hsc : lawScope? PySem.Challenge.rw_xy0002_02.row.toRowW.prog = some scope)
    (w : World) (mean : ExcName → Option Value) (mg mb : Str → Option Value) (dp un : Nat) (gd : Option (List Code)) (a : Addr) (ccd : Value) (outer : List Env) (A₀ : Around) (base h₀ : Heap) (L : Addr) (m : Str → Option Value) (s : Shared) (E : Value → Shared → Prop) (news : Led)
    (c0 c1 c2 c3 c4 sl rg lr l0 l1 l2 : Addr) (o0 o1 o2 o3 o4 : Obj) (n : Nat) (q nb : Int) (tn tq tb : Tok) (svs vs0 vs1 vs2 : List Value) (sns r0 r1 r2 : List Int) (k0 k1 k2 kr : Nat) (v1 v2 v3 : Value)
    (B : Below A₀ base outer h₀) (hS : base.IsList sl svs.toArray) (X : (hd02.heap_39 w.params).In h₀) (T : Top Mine02.view (looseW Mine02.view []) mean mg mb h₀) (hdp : dp + 100 < recursionLimit) (hun : un + 800 < cLine)
    (hsi : IntsAre svs sns) (hsb : ∀ x ∈ sns, Builtin.Int.intBits x ≤ 2 ^ 20) (hsl : sns.length ≤ 63)
    (hc0 : (c0, o0) ∈ news) (hd0 : o0.data = .cell (some (.ref sl))) (hc1 : (c1, o1) ∈ news) (hd1 : o1.data = .cell (some (.int (n : Int) tn))) (hc2 : (c2, o2) ∈ news) (hd2 : o2.data = .cell (some (.ref rg))) (hc3 : (c3, o3) ∈ news) (hd3 : o3.data = .cell (some (.ref lr))) (hc4 : (c4, o4) ∈ news) (hd4 : o4.data = .cell (some (.int nb tb)))
    (h1n : 1 ≤ n) (hn : n ≤ 10) (hq : 2 ≤ q) (hq2 : q ≤ 10000) (hnb : Bd nb) (hr : RingIn news rg q n)
    (hrows : (lr, W.listOf #[.ref l0, .ref l1, .ref l2] kr) ∈ news) (hm0 : (l0, W.listOf vs0.toArray k0) ∈ news) (hm1 : (l1, W.listOf vs1.toArray k1) ∈ news) (hm2 : (l2, W.listOf vs2.toArray k2) ∈ news) (hi0 : IntsAre vs0 r0) (hi1 : IntsAre vs1 r1) (hi2 : IntsAre vs2 r2)
    (hl0 : r0.length = n) (hl1 : r1.length = n) (hl2 : r2.length = n) (hb0 : ∀ x ∈ r0, Bd x) (hb1 : ∀ x ∈ r1, Bd x) (hb2 : ∀ x ∈ r2, Bd x)
    (hmq : m (Str.ofString "q") = some (.int q tq)) (hm_1 : m (Str.ofString "one") = some v1) (hm_2 : m (Str.ofString "two") = some v2) (hm_3 : m (Str.ofString "three") = some v3)
    (hp1 : PolyIn news v1 rg r0) (hp2 : PolyIn news v2 rg r1) (hp3 : PolyIn news v3 rg r2)
    (F : Fr h₀ L s.heap m) (N : News h₀ L s.heap news) :
    wpAny (model PySem.Challenge.rw_xy0002_02.row.toRowW.prog w) (ktrTop dp un gd (Str.ofString "law") scope L a ccd [(Str.ofString "number", c4), (Str.ofString "rows", c3), (Str.ofString "ring", c2), (Str.ofString "n", c1), (Str.ofString "script", c0)] outer) (exec st (envX (Str.ofString "law") scope L a ccd [(Str.ofString "number", c4), (Str.ofString "rows", c3), (Str.ofString "ring", c2), (Str.ofString "n", c1), (Str.ofString "script", c0)])) (Ends h₀ L m s) E s := by
  obtain rfl : _ = st := Option.some.inj (hst : some _ = some st)
  obtain rfl : _ = scope := Option.some.inj (hsc : some _ = some scope)
  clear hst hsc
  refine RingIn.elim hr ?_
  clear hr
  intro dr h1r k1r h2r k2r tqr tnr cr hr1 hr2
  refine PolyIn.elim hp1 ?_
  clear hp1
  intro f1 df1 ha1 ka1 hb1' kb1 a1 us1 ku1 cf1 eP9 ma1 mb1 mc1 ia1
  subst eP9
  refine PolyIn.elim hp2 ?_
  clear hp2
  intro f2 df2 ha2 ka2 hb2' kb2 a2 us2 ku2 cf2 eP9 ma2 mb2 mc2 ia2
  subst eP9
  refine PolyIn.elim hp3 ?_
  clear hp3
  intro f3 df3 ha3 ka3 hb3' kb3 a3 us3 ku3 cf3 eP9 ma3 mb3 mc3 ia3
  subst eP9
  revert X; k_fill; intro X
  obtain ⟨rest, N₂, hall, hr⟩ := news_at N mb1
  replace hc0 := hr _ _ hc0 (by rintro rfl; cases hd0)
  replace hc1 := hr _ _ hc1 (by rintro rfl; cases hd1)
  replace hc2 := hr _ _ hc2 (by rintro rfl; cases hd2)
  replace hc3 := hr _ _ hc3 (by rintro rfl; cases hd3)
  replace hrows := hr _ _ hrows (by intro z; have z' := congrArg Obj.cls z; simp [W.listOf, W.dictOf] at z')
  replace hm0 := hr _ _ hm0 (by intro z; have z' := congrArg Obj.cls z; simp [W.listOf, W.dictOf] at z')
  replace ma1 := hr _ _ ma1 (by intro z; cases z)
  replace mc1 := hr _ _ mc1 (by intro z; have z' := congrArg Obj.cls z; simp [W.listOf, W.dictOf] at z')
  replace hr1 := hr _ _ hr1 (by intro z; cases z)
  replace hr2 := hr _ _ hr2 (by intro z; cases z)
  clear hr N
  k_steps
  have x1 : df1 < _ := (‹_ < _ ∧ AllLt _ _›).1
  have x2 : df1 ≠ _ := (‹_ ≠ _ ∧ _ ≠ _ ∧ LCg.Off1 _ _›).2.1
  k_here
  refine' set_dict ?k1 ?k2 ?k3 ?k4 ?k5 ?k6 ?k7 ?k8 ?k9 ?k10 ?k11 ?k12 ?k13 ?_
  (case k1 => k_asm)
  (case k2 => k_asm)
  (case k3 => k_asm)
  (case k4 => k_inst)
  (case k5 => exact rfl)
  (case k6 => k_is)
  (case k7 => k_is)
  (case k8 => k_is)
  (case k9 => k_is)
  (case k10 => k_get)
  (case k11 => exact put2 rfl rfl)
  (case k12 => exact Upd.tail (Ne.symm x2) (Upd.tail (by exact lt_ne_succ x1) (Upd.head hall)))
  (case k13 => exact Nat.le_of_ble_eq_true rfl)
  intro h' F' N'
  (try dsimp only at N')
  (try k_sweep)
  k_steps
  exact Ends.intro (by k_asm) (decide_eq_true rfl)
section
local macro_rules | `(tactic| walk_at "call ref") => `(tactic| (k_here; (with_reducible show wpAny _ _ (call (Value.ref 231) _) _ _ _); k_dflt (refine wpAny_call ?_; refine' SpecS.use (cell_spec _ _ _ _ _ _ _ _ ?zhsi ?zhsb ?zhsl _ _ ?zhk0 ?zhk1) ?zB ?zhS ?zF ?zX ?zN ?zT ?zhk ?zhd ?zhu ?_; (case zB | zhS | zF | zX | zN | zT => k_asm); (case zhk => first | exact rfl | assumption); (case zhd => ktr_room); (case zhu => ktr_units); (case zhsi => assumption); (case zhsb => assumption); (case zhsl => omega); (case zhk0 | zhk1 => omega)); k_dflt (intro r' nw' h' tk' F' N' S' O'; obtain ⟨x', t', e', x0', xb'⟩ := O'; subst e'; (replace N' := newsDown N' S'); clear S'); k_dflt (first | refine cmpBack_ref ?_ | refine cmpBack_bool ?_ | skip); (try k_sweep)))
theorem walkOff34 : True := by
  w_top off
  trivial
set_option maxHeartbeats 4000000 in
theorem blk17 (st : Stmt) (hst : lawStmt? PySem.Challenge.rw_xy0002_02.row.toRowW.prog 16 = some st)
    (scope : Scope) (hsc : lawScope? PySem.Challenge.rw_xy0002_02.row.toRowW.prog = some scope)
    (w : World) (mean : ExcName → Option Value) (mg mb : Str → Option Value) (dp un : Nat) (gd : Option (List Code)) (a : Addr) (ccd : Value) (outer : List Env) (A₀ : Around) (base h₀ : Heap) (L : Addr) (m : Str → Option Value) (s : Shared) (E : Value → Shared → Prop) (news : Led)
    (c0 c1 c2 c3 c4 sl rg lr l0 l1 l2 : Addr) (o0 o1 o2 o3 o4 : Obj) (n : Nat) (q nb : Int) (tn tq tb : Tok) (svs vs0 vs1 vs2 : List Value) (sns r0 r1 r2 : List Int) (k0 k1 k2 kr : Nat) (v1 v2 v3 : Value)
    (B : Below A₀ base outer h₀) (hS : base.IsList sl svs.toArray) (X : (hd02.heap_39 w.params).In h₀) (T : Top Mine02.view (looseW Mine02.view []) mean mg mb h₀) (hdp : dp + 100 < recursionLimit) (hun : un + 800 < cLine)
    (hsi : IntsAre svs sns) (hsb : ∀ x ∈ sns, Builtin.Int.intBits x ≤ 2 ^ 20) (hsl : sns.length ≤ 63)
    (hc0 : (c0, o0) ∈ news) (hd0 : o0.data = .cell (some (.ref sl))) (hc1 : (c1, o1) ∈ news) (hd1 : o1.data = .cell (some (.int (n : Int) tn))) (hc2 : (c2, o2) ∈ news) (hd2 : o2.data = .cell (some (.ref rg))) (hc3 : (c3, o3) ∈ news) (hd3 : o3.data = .cell (some (.ref lr))) (hc4 : (c4, o4) ∈ news) (hd4 : o4.data = .cell (some (.int nb tb)))
    (h1n : 1 ≤ n) (hn : n ≤ 10) (hq : 2 ≤ q) (hq2 : q ≤ 10000) (hnb : Bd nb) (hr : RingIn news rg q n)
    (hrows : (lr, W.listOf #[.ref l0, .ref l1, .ref l2] kr) ∈ news) (hm0 : (l0, W.listOf vs0.toArray k0) ∈ news) (hm1 : (l1, W.listOf vs1.toArray k1) ∈ news) (hm2 : (l2, W.listOf vs2.toArray k2) ∈ news) (hi0 : IntsAre vs0 r0) (hi1 : IntsAre vs1 r1) (hi2 : IntsAre vs2 r2)
    (hl0 : r0.length = n) (hl1 : r1.length = n) (hl2 : r2.length = n) (hb0 : ∀ x ∈ r0, Bd x) (hb1 : ∀ x ∈ r1, Bd x) (hb2 : ∀ x ∈ r2, Bd x)
    (hmq : m (Str.ofString "q") = some (.int q tq)) (hm_1 : m (Str.ofString "one") = some v1) (hm_2 : m (Str.ofString "two") = some v2) (hm_3 : m (Str.ofString "three") = some v3)
    (hp1 : PolyIn news v1 rg r0) (hp2 : PolyIn news v2 rg r1) (hp3 : PolyIn news v3 rg r2)
    (F : Fr h₀ L s.heap m) (N : News h₀ L s.heap news) :
    wpAny (model PySem.Challenge.rw_xy0002_02.row.toRowW.prog w) (ktrTop dp un gd (Str.ofString "law") scope L a ccd [(Str.ofString "number", c4), (Str.ofString "rows", c3), (Str.ofString "ring", c2), (Str.ofString "n", c1), (Str.ofString "script", c0)] outer) (exec st (envX (Str.ofString "law") scope L a ccd [(Str.ofString "number", c4), (Str.ofString "rows", c3), (Str.ofString "ring", c2), (Str.ofString "n", c1), (Str.ofString "script", c0)])) (SetsName h₀ L m news s (Str.ofString "first") fun v nw => ∃ (x : Nat) (t : Tok), v = .int (x : Int) t ∧ x < 6) E s := by
  obtain rfl : _ = st := Option.some.inj (hst : some _ = some st)
  obtain rfl : _ = scope := Option.some.inj (hsc : some _ = some scope)
  clear hst hsc
  refine RingIn.elim hr ?_
  clear hr
  intro dr h1r k1r h2r k2r tqr tnr cr hr1 hr2
  refine PolyIn.elim hp1 ?_
  clear hp1
  intro f1 df1 ha1 ka1 hb1' kb1 a1 us1 ku1 cf1 eP9 ma1 mb1 mc1 ia1
  subst eP9
  refine PolyIn.elim hp2 ?_
  clear hp2
  intro f2 df2 ha2 ka2 hb2' kb2 a2 us2 ku2 cf2 eP9 ma2 mb2 mc2 ia2
  subst eP9
  refine PolyIn.elim hp3 ?_
  clear hp3
  intro f3 df3 ha3 ka3 hb3' kb3 a3 us3 ku3 cf3 eP9 ma3 mb3 mc3 ia3
  subst eP9
  revert X; k_fill; intro X
  k_steps
  exact SetsName.intro (by k_asm) (by k_asm) (by intro p hp; k_mem) (nat_fmod _ _ 6 (by decide))
theorem walkOff35 : True := by
  w_top off
  trivial
set_option maxHeartbeats 4000000 in
theorem blk18 (st : Stmt) (hst : lawStmt? PySem.Challenge.rw_xy0002_02.row.toRowW.prog 17 = some st)
    (scope : Scope) (hsc : lawScope? PySem.Challenge.rw_xy0002_02.row.toRowW.prog = some scope)
    (w : World) (mean : ExcName → Option Value) (mg mb : Str → Option Value) (dp un : Nat) (gd : Option (List Code)) (a : Addr) (ccd : Value) (outer : List Env) (A₀ : Around) (base h₀ : Heap) (L : Addr) (m : Str → Option Value) (s : Shared) (E : Value → Shared → Prop) (news : Led)
    (c0 c1 c2 c3 c4 sl rg lr l0 l1 l2 : Addr) (o0 o1 o2 o3 o4 : Obj) (n : Nat) (q nb : Int) (tn tq tb : Tok) (svs vs0 vs1 vs2 : List Value) (sns r0 r1 r2 : List Int) (k0 k1 k2 kr : Nat) (v1 v2 v3 : Value)
    (B : Below A₀ base outer h₀) (hS : base.IsList sl svs.toArray) (X : (hd02.heap_39 w.params).In h₀) (T : Top Mine02.view (looseW Mine02.view []) mean mg mb h₀) (hdp : dp + 100 < recursionLimit) (hun : un + 800 < cLine)
    (hsi : IntsAre svs sns) (hsb : ∀ x ∈ sns, Builtin.Int.intBits x ≤ 2 ^ 20) (hsl : sns.length ≤ 63)
    (hc0 : (c0, o0) ∈ news) (hd0 : o0.data = .cell (some (.ref sl))) (hc1 : (c1, o1) ∈ news) (hd1 : o1.data = .cell (some (.int (n : Int) tn))) (hc2 : (c2, o2) ∈ news) (hd2 : o2.data = .cell (some (.ref rg))) (hc3 : (c3, o3) ∈ news) (hd3 : o3.data = .cell (some (.ref lr))) (hc4 : (c4, o4) ∈ news) (hd4 : o4.data = .cell (some (.int nb tb)))
    (h1n : 1 ≤ n) (hn : n ≤ 10) (hq : 2 ≤ q) (hq2 : q ≤ 10000) (hnb : Bd nb) (hr : RingIn news rg q n)
    (hrows : (lr, W.listOf #[.ref l0, .ref l1, .ref l2] kr) ∈ news) (hm0 : (l0, W.listOf vs0.toArray k0) ∈ news) (hm1 : (l1, W.listOf vs1.toArray k1) ∈ news) (hm2 : (l2, W.listOf vs2.toArray k2) ∈ news) (hi0 : IntsAre vs0 r0) (hi1 : IntsAre vs1 r1) (hi2 : IntsAre vs2 r2)
    (hl0 : r0.length = n) (hl1 : r1.length = n) (hl2 : r2.length = n) (hb0 : ∀ x ∈ r0, Bd x) (hb1 : ∀ x ∈ r1, Bd x) (hb2 : ∀ x ∈ r2, Bd x)
    (hmq : m (Str.ofString "q") = some (.int q tq)) (hm_1 : m (Str.ofString "one") = some v1) (hm_2 : m (Str.ofString "two") = some v2) (hm_3 : m (Str.ofString "three") = some v3)
    (hp1 : PolyIn news v1 rg r0) (hp2 : PolyIn news v2 rg r1) (hp3 : PolyIn news v3 rg r2)
    (F : Fr h₀ L s.heap m) (N : News h₀ L s.heap news) :
    wpAny (model PySem.Challenge.rw_xy0002_02.row.toRowW.prog w) (ktrTop dp un gd (Str.ofString "law") scope L a ccd [(Str.ofString "number", c4), (Str.ofString "rows", c3), (Str.ofString "ring", c2), (Str.ofString "n", c1), (Str.ofString "script", c0)] outer) (exec st (envX (Str.ofString "law") scope L a ccd [(Str.ofString "number", c4), (Str.ofString "rows", c3), (Str.ofString "ring", c2), (Str.ofString "n", c1), (Str.ofString "script", c0)])) (SetsName h₀ L m news s (Str.ofString "second") fun v nw => ∃ (x : Nat) (t : Tok), v = .int (x : Int) t ∧ x < 5) E s := by
  obtain rfl : _ = st := Option.some.inj (hst : some _ = some st)
  obtain rfl : _ = scope := Option.some.inj (hsc : some _ = some scope)
  clear hst hsc
  refine RingIn.elim hr ?_
  clear hr
  intro dr h1r k1r h2r k2r tqr tnr cr hr1 hr2
  refine PolyIn.elim hp1 ?_
  clear hp1
  intro f1 df1 ha1 ka1 hb1' kb1 a1 us1 ku1 cf1 eP9 ma1 mb1 mc1 ia1
  subst eP9
  refine PolyIn.elim hp2 ?_
  clear hp2
  intro f2 df2 ha2 ka2 hb2' kb2 a2 us2 ku2 cf2 eP9 ma2 mb2 mc2 ia2
  subst eP9
  refine PolyIn.elim hp3 ?_
  clear hp3
  intro f3 df3 ha3 ka3 hb3' kb3 a3 us3 ku3 cf3 eP9 ma3 mb3 mc3 ia3
  subst eP9
  revert X; k_fill; intro X
  k_steps
  exact SetsName.intro (by k_asm) (by k_asm) (by intro p hp; k_mem) (nat_fmod _ _ 5 (by decide))
end
section
local macro_rules | `(tactic| walk_at "call ref") => `(tactic| (k_here; (with_reducible show wpAny _ _ (call (Value.ref 271) _) _ _ _); k_dflt (refine wpAny_call ?_; refine' code_defT ?k1 ?k2 ?k3 ?k4 ?k5 ?kA ?kF ?kK ?k6 ?k7 ?k8 ?k9 ?kB ?_ ?c2 ?c3 ?c4 ?c5; (case kA => exact rfl); (case kF => exact rfl); (case kK => first | exact rfl | assumption); (case k1 => k_asm); (case k2 => k_asm); (case k3 => k_asm); (case k4 => k_asm); (case k5 => k_asm); (case k6 => k_is); (case k7 => k_is); (case k8 => ktr_room); (case k9 => exact BindsTo.of_eq rfl); (case c5 => decide); (case kB => exact locs rfl); (case c2 => exact rfl); (case c3 => exact rfl); (case c4 => exact rfl); k_whole; intro g' L' h' FG' F' N' B' X' T' D'; (try dsimp only); (try k_lift B'); (try k_fold))))
section
local macro_rules | `(tactic| walk_at "no such step") => `(tactic| fail "no such step")
theorem walkOff36 : True := by
  w_top off
  trivial
set_option maxHeartbeats 4000000 in
theorem blk22 (st : Stmt) (hst : lawStmt? PySem.Challenge.rw_xy0002_02.row.toRowW.prog 21 = some st)
    (scope : Scope) (hsc : lawScope? PySem.Challenge.rw_xy0002_02.row.toRowW.prog = some scope)
    (w : World) (mean : ExcName → Option Value) (mg mb : Str → Option Value) (dp un : Nat) (gd : Option (List Code)) (a : Addr) (ccd : Value) (outer : List Env) (A₀ : Around) (base h₀ : Heap) (L : Addr) (m : Str → Option Value) (s : Shared) (E : Value → Shared → Prop) (news : Led)
    (c0 c1 c2 c3 c4 sl rg lr l0 l1 l2 : Addr) (o0 o1 o2 o3 o4 : Obj) (n : Nat) (q nb : Int) (tn tq tb : Tok) (svs vs0 vs1 vs2 : List Value) (sns r0 r1 r2 : List Int) (k0 k1 k2 kr : Nat) (v1 v2 v3 : Value)
    (B : Below A₀ base outer h₀) (hS : base.IsList sl svs.toArray) (X : (hd02.heap_39 w.params).In h₀) (T : Top Mine02.view (looseW Mine02.view []) mean mg mb h₀) (hdp : dp + 100 < recursionLimit) (hun : un + 800 < cLine)
    (hsi : IntsAre svs sns) (hsb : ∀ x ∈ sns, Builtin.Int.intBits x ≤ 2 ^ 20) (hsl : sns.length ≤ 63)
    (hc0 : (c0, o0) ∈ news) (hd0 : o0.data = .cell (some (.ref sl))) (hc1 : (c1, o1) ∈ news) (hd1 : o1.data = .cell (some (.int (n : Int) tn))) (hc2 : (c2, o2) ∈ news) (hd2 : o2.data = .cell (some (.ref rg))) (hc3 : (c3, o3) ∈ news) (hd3 : o3.data = .cell (some (.ref lr))) (hc4 : (c4, o4) ∈ news) (hd4 : o4.data = .cell (some (.int nb tb)))
    (h1n : 1 ≤ n) (hn : n ≤ 10) (hq : 2 ≤ q) (hq2 : q ≤ 10000) (hnb : Bd nb) (hr : RingIn news rg q n)
    (hrows : (lr, W.listOf #[.ref l0, .ref l1, .ref l2] kr) ∈ news) (hm0 : (l0, W.listOf vs0.toArray k0) ∈ news) (hm1 : (l1, W.listOf vs1.toArray k1) ∈ news) (hm2 : (l2, W.listOf vs2.toArray k2) ∈ news) (hi0 : IntsAre vs0 r0) (hi1 : IntsAre vs1 r1) (hi2 : IntsAre vs2 r2)
    (hl0 : r0.length = n) (hl1 : r1.length = n) (hl2 : r2.length = n) (hb0 : ∀ x ∈ r0, Bd x) (hb1 : ∀ x ∈ r1, Bd x) (hb2 : ∀ x ∈ r2, Bd x)
    (hmq : m (Str.ofString "q") = some (.int q tq)) (hm_1 : m (Str.ofString "one") = some v1) (hm_2 : m (Str.ofString "two") = some v2) (hm_3 : m (Str.ofString "three") = some v3)
    (hp1 : PolyIn news v1 rg r0) (hp2 : PolyIn news v2 rg r1) (hp3 : PolyIn news v3 rg r2)
    (hbase : base = h₀) (hout : outer = []) (e1 e2 : Nat) (te1 te2 : Tok) (hm_f : m (Str.ofString "first") = some (.int (e1 : Int) te1)) (hm_s : m (Str.ofString "second") = some (.int (e2 : Int) te2)) (he1 : e1 < 6) (he2 : e2 < 5)
    (F : Fr h₀ L s.heap m) (N : News h₀ L s.heap news) :
    wpAny (model PySem.Challenge.rw_xy0002_02.row.toRowW.prog w) (ktrTop dp un gd (Str.ofString "law") scope L a ccd [(Str.ofString "number", c4), (Str.ofString "rows", c3), (Str.ofString "ring", c2), (Str.ofString "n", c1), (Str.ofString "script", c0)] outer) (exec st (envX (Str.ofString "law") scope L a ccd [(Str.ofString "number", c4), (Str.ofString "rows", c3), (Str.ofString "ring", c2), (Str.ofString "n", c1), (Str.ofString "script", c0)])) (Stays h₀ L m news s) E s := by
  subst hbase hout
  obtain rfl : _ = st := Option.some.inj (hst : some _ = some st)
  obtain rfl : _ = scope := Option.some.inj (hsc : some _ = some scope)
  clear hst hsc
  refine RingIn.elim hr ?_
  clear hr
  intro dr h1r k1r h2r k2r tqr tnr cr hr1 hr2
  refine PolyIn.elim hp1 ?_
  clear hp1
  intro f1 df1 ha1 ka1 hb1' kb1 a1 us1 ku1 cf1 eP9 ma1 mb1 mc1 ia1
  subst eP9
  refine PolyIn.elim hp2 ?_
  clear hp2
  intro f2 df2 ha2 ka2 hb2' kb2 a2 us2 ku2 cf2 eP9 ma2 mb2 mc2 ia2
  subst eP9
  refine PolyIn.elim hp3 ?_
  clear hp3
  intro f3 df3 ha3 ka3 hb3' kb3 a3 us3 ku3 cf3 eP9 ma3 mb3 mc3 ia3
  subst eP9
  revert X; k_fill; intro X
  k_steps
  all_goals exact Stays.intro (by k_asm) (by k_asm) (by intro p hp; k_mem)
end
end
section
local macro_rules | `(tactic| walk_at "compareOp NotEq ref ref") => `(tactic| (k_here; (with_reducible show wpAny _ _ (compareOp CmpOp.NotEq (Value.ref _) (Value.ref _)) _ _ _); refine halt_of ?_))
theorem walkOff37 : True := by
  w_top off
  trivial
set_option maxHeartbeats 4000000 in
theorem blk23 (st : Stmt) (hst : lawStmt? PySem.Challenge.rw_xy0002_02.row.toRowW.prog 22 = some st)
    (scope : Scope) (hsc : lawScope? PySem.Challenge.rw_xy0002_02.row.toRowW.prog = some scope)
    (w : World) (mean : ExcName → Option Value) (mg mb : Str → Option Value) (dp un : Nat) (gd : Option (List Code)) (a : Addr) (ccd : Value) (outer : List Env) (A₀ : Around) (base h₀ : Heap) (L : Addr) (m : Str → Option Value) (s : Shared) (E : Value → Shared → Prop) (news : Led)
    (c0 c1 c2 c3 c4 sl rg lr l0 l1 l2 : Addr) (o0 o1 o2 o3 o4 : Obj) (n : Nat) (q nb : Int) (tn tq tb : Tok) (svs vs0 vs1 vs2 : List Value) (sns r0 r1 r2 : List Int) (k0 k1 k2 kr : Nat) (v1 v2 v3 : Value)
    (B : Below A₀ base outer h₀) (hS : base.IsList sl svs.toArray) (X : (hd02.heap_39 w.params).In h₀) (T : Top Mine02.view (looseW Mine02.view []) mean mg mb h₀) (hdp : dp + 100 < recursionLimit) (hun : un + 800 < cLine)
    (hsi : IntsAre svs sns) (hsb : ∀ x ∈ sns, Builtin.Int.intBits x ≤ 2 ^ 20) (hsl : sns.length ≤ 63)
    (hc0 : (c0, o0) ∈ news) (hd0 : o0.data = .cell (some (.ref sl))) (hc1 : (c1, o1) ∈ news) (hd1 : o1.data = .cell (some (.int (n : Int) tn))) (hc2 : (c2, o2) ∈ news) (hd2 : o2.data = .cell (some (.ref rg))) (hc3 : (c3, o3) ∈ news) (hd3 : o3.data = .cell (some (.ref lr))) (hc4 : (c4, o4) ∈ news) (hd4 : o4.data = .cell (some (.int nb tb)))
    (h1n : 1 ≤ n) (hn : n ≤ 10) (hq : 2 ≤ q) (hq2 : q ≤ 10000) (hnb : Bd nb) (hr : RingIn news rg q n)
    (hrows : (lr, W.listOf #[.ref l0, .ref l1, .ref l2] kr) ∈ news) (hm0 : (l0, W.listOf vs0.toArray k0) ∈ news) (hm1 : (l1, W.listOf vs1.toArray k1) ∈ news) (hm2 : (l2, W.listOf vs2.toArray k2) ∈ news) (hi0 : IntsAre vs0 r0) (hi1 : IntsAre vs1 r1) (hi2 : IntsAre vs2 r2)
    (hl0 : r0.length = n) (hl1 : r1.length = n) (hl2 : r2.length = n) (hb0 : ∀ x ∈ r0, Bd x) (hb1 : ∀ x ∈ r1, Bd x) (hb2 : ∀ x ∈ r2, Bd x)
    (hmq : m (Str.ofString "q") = some (.int q tq)) (hm_1 : m (Str.ofString "one") = some v1) (hm_2 : m (Str.ofString "two") = some v2) (hm_3 : m (Str.ofString "three") = some v3)
    (hp1 : PolyIn news v1 rg r0) (hp2 : PolyIn news v2 rg r1) (hp3 : PolyIn news v3 rg r2)
    (F : Fr h₀ L s.heap m) (N : News h₀ L s.heap news) :
    wpAny (model PySem.Challenge.rw_xy0002_02.row.toRowW.prog w) (ktrTop dp un gd (Str.ofString "law") scope L a ccd [(Str.ofString "number", c4), (Str.ofString "rows", c3), (Str.ofString "ring", c2), (Str.ofString "n", c1), (Str.ofString "script", c0)] outer) (exec st (envX (Str.ofString "law") scope L a ccd [(Str.ofString "number", c4), (Str.ofString "rows", c3), (Str.ofString "ring", c2), (Str.ofString "n", c1), (Str.ofString "script", c0)])) (Stays h₀ L m news s) E s := by
  obtain rfl : _ = st := Option.some.inj (hst : some _ = some st)
  obtain rfl : _ = scope := Option.some.inj (hsc : some _ = some scope)
  clear hst hsc
  refine RingIn.elim hr ?_
  clear hr
  intro dr h1r k1r h2r k2r tqr tnr cr hr1 hr2
  refine PolyIn.elim hp1 ?_
  clear hp1
  intro f1 df1 ha1 ka1 hb1' kb1 a1 us1 ku1 cf1 eP9 ma1 mb1 mc1 ia1
  subst eP9
  refine PolyIn.elim hp2 ?_
  clear hp2
  intro f2 df2 ha2 ka2 hb2' kb2 a2 us2 ku2 cf2 eP9 ma2 mb2 mc2 ia2
  subst eP9
  refine PolyIn.elim hp3 ?_
  clear hp3
  intro f3 df3 ha3 ka3 hb3' kb3 a3 us3 ku3 cf3 eP9 ma3 mb3 mc3 ia3
  subst eP9
  revert X; k_fill; intro X
  k_steps
  unfold Halt
  refine' ne_rows3 (r0 := r0) (r1 := r1) (r2 := r2) ?k1 ?a1 ?a2 ?b1 ?b2 ?c1 ?c2 ?k2 ?d1 ?d2 ?e1 ?e2 ?f1 ?f2 ?k5 ?_
  (case k1 => exact News.isList (by k_asm) (by k_mem))
  (case a1 => exact News.isList (by k_asm) (by k_mem))
  (case b1 => exact News.isList (by k_asm) (by k_mem))
  (case c1 => exact News.isList (by k_asm) (by k_mem))
  (case k2 => exact News.isList (by k_asm) (by k_mem))
  (case d1 => exact News.isList (by k_asm) (by k_mem))
  (case e1 => exact News.isList (by k_asm) (by k_mem))
  (case f1 => exact News.isList (by k_asm) (by k_mem))
  (case a2 => assumption)
  (case b2 => assumption)
  (case c2 => assumption)
  (case d2 => assumption)
  (case e2 => assumption)
  (case f2 => assumption)
  (case k5 => ktr_units)
  k_steps
  exact Stays.intro (by k_asm) (by k_asm) (by intro p hp; k_mem)
end
end
theorem walkOff38 : True := by
  w_top off
  trivial
theorem RingIn.mono {a b : Led} {rg : Addr} {q : Int} {n : Nat} (h : RingIn a rg q n) (s : Sub a b) : RingIn b rg q n := by
  refine RingIn.elim h ?_
  clear h
  intro d h1 k1 h2 k2 tq tn c m1 m2
  exact ⟨d, h1, k1, h2, k2, tq, tn, c, s _ m1, s _ m2⟩
/-- where the law's def ends -/
def LawEnd (h₀ : Heap) (L : Addr) (s : Shared) (f : Flow) (s' : Shared) : Prop := f = .ret (.bool true) ∧ ∃ h' tk' m, s' = { s with heap := h', toks := tk' } ∧ Fr h₀ L h' m
set_option maxHeartbeats 4000000 in
theorem law_rest (st7 : Stmt) (h7 : lawStmt? PySem.Challenge.rw_xy0002_02.row.toRowW.prog 6 = some st7) (st8 : Stmt) (h8 : lawStmt? PySem.Challenge.rw_xy0002_02.row.toRowW.prog 7 = some st8) (st9 : Stmt) (h9 : lawStmt? PySem.Challenge.rw_xy0002_02.row.toRowW.prog 8 = some st9) (st10 : Stmt) (h10 : lawStmt? PySem.Challenge.rw_xy0002_02.row.toRowW.prog 9 = some st10) (st11 : Stmt) (h11 : lawStmt? PySem.Challenge.rw_xy0002_02.row.toRowW.prog 10 = some st11) (st12 : Stmt) (h12 : lawStmt? PySem.Challenge.rw_xy0002_02.row.toRowW.prog 11 = some st12) (st13 : Stmt) (h13 : lawStmt? PySem.Challenge.rw_xy0002_02.row.toRowW.prog 12 = some st13) (st14 : Stmt) (h14 : lawStmt? PySem.Challenge.rw_xy0002_02.row.toRowW.prog 13 = some st14) (st15 : Stmt) (h15 : lawStmt? PySem.Challenge.rw_xy0002_02.row.toRowW.prog 14 = some st15) (st16 : Stmt) (h16 : lawStmt? PySem.Challenge.rw_xy0002_02.row.toRowW.prog 15 = some st16) (st17 : Stmt) (h17 : lawStmt? PySem.Challenge.rw_xy0002_02.row.toRowW.prog 16 = some st17) (st18 : Stmt) (h18 : lawStmt? PySem.Challenge.rw_xy0002_02.row.toRowW.prog 17 = some st18) (st19 : Stmt) (h19 : lawStmt? PySem.Challenge.rw_xy0002_02.row.toRowW.prog 18 = some st19) (st20 : Stmt) (h20 : lawStmt? PySem.Challenge.rw_xy0002_02.row.toRowW.prog 19 = some st20) (st21 : Stmt) (h21 : lawStmt? PySem.Challenge.rw_xy0002_02.row.toRowW.prog 20 = some st21) (st22 : Stmt) (h22 : lawStmt? PySem.Challenge.rw_xy0002_02.row.toRowW.prog 21 = some st22) (st23 : Stmt) (h23 : lawStmt? PySem.Challenge.rw_xy0002_02.row.toRowW.prog 22 = some st23) (st24 : Stmt) (h24 : lawStmt? PySem.Challenge.rw_xy0002_02.row.toRowW.prog 23 = some st24)
    (scope : Scope) (hsc : lawScope? PySem.Challenge.rw_xy0002_02.row.toRowW.prog = some scope)
    (w : World) (mean : ExcName → Option Value) (mg mb : Str → Option Value) (dp un : Nat) (gd : Option (List Code)) (a : Addr) (ccd : Value) (outer : List Env) (A₀ : Around) (base h₀ : Heap) (L : Addr) (m : Str → Option Value) (s : Shared) (E : Value → Shared → Prop) (news : Led)
    (c0 c1 c2 c3 c4 sl rg lr l0 l1 l2 : Addr) (o0 o1 o2 o3 o4 : Obj) (n : Nat) (q nb : Int) (tn tq tb : Tok) (svs vs0 vs1 vs2 : List Value) (sns r0 r1 r2 : List Int) (k0 k1 k2 kr : Nat) (v1 v2 v3 : Value)
    (B : Below A₀ base outer h₀) (hS : base.IsList sl svs.toArray) (X : (hd02.heap_39 w.params).In h₀) (T : Top Mine02.view (looseW Mine02.view []) mean mg mb h₀) (hdp : dp + 100 < recursionLimit) (hun : un + 800 < cLine)
    (hsi : IntsAre svs sns) (hsb : ∀ x ∈ sns, Builtin.Int.intBits x ≤ 2 ^ 20) (hsl : sns.length ≤ 63)
    (hc0 : (c0, o0) ∈ news) (hd0 : o0.data = .cell (some (.ref sl))) (hc1 : (c1, o1) ∈ news) (hd1 : o1.data = .cell (some (.int (n : Int) tn))) (hc2 : (c2, o2) ∈ news) (hd2 : o2.data = .cell (some (.ref rg))) (hc3 : (c3, o3) ∈ news) (hd3 : o3.data = .cell (some (.ref lr))) (hc4 : (c4, o4) ∈ news) (hd4 : o4.data = .cell (some (.int nb tb)))
    (h1n : 1 ≤ n) (hn : n ≤ 10) (hq : 2 ≤ q) (hq2 : q ≤ 10000) (hnb : Bd nb) (hr : RingIn news rg q n)
    (hrows : (lr, W.listOf #[.ref l0, .ref l1, .ref l2] kr) ∈ news) (hm0 : (l0, W.listOf vs0.toArray k0) ∈ news) (hm1 : (l1, W.listOf vs1.toArray k1) ∈ news) (hm2 : (l2, W.listOf vs2.toArray k2) ∈ news) (hi0 : IntsAre vs0 r0) (hi1 : IntsAre vs1 r1) (hi2 : IntsAre vs2 r2)
    (hl0 : r0.length = n) (hl1 : r1.length = n) (hl2 : r2.length = n) (hb0 : ∀ x ∈ r0, Bd x) (hb1 : ∀ x ∈ r1, Bd x) (hb2 : ∀ x ∈ r2, Bd x)
    (hmq : m (Str.ofString "q") = some (.int q tq)) (hm_1 : m (Str.ofString "one") = some v1) (hm_2 : m (Str.ofString "two") = some v2) (hm_3 : m (Str.ofString "three") = some v3)
    (hp1 : PolyIn news v1 rg r0) (hp2 : PolyIn news v2 rg r1) (hp3 : PolyIn news v3 rg r2)
    (hbase : base = h₀) (hout : outer = [])
    (F : Fr h₀ L s.heap m) (N : News h₀ L s.heap news) :
    wpAny (model PySem.Challenge.rw_xy0002_02.row.toRowW.prog w) (ktrTop dp un gd (Str.ofString "law") scope L a ccd [(Str.ofString "number", c4), (Str.ofString "rows", c3), (Str.ofString "ring", c2), (Str.ofString "n", c1), (Str.ofString "script", c0)] outer) (execs [st7, st8, st9, st10, st11, st12, st13, st14, st15, st16, st17, st18, st19, st20, st21, st22, st23, st24] (envX (Str.ofString "law") scope L a ccd [(Str.ofString "number", c4), (Str.ofString "rows", c3), (Str.ofString "ring", c2), (Str.ofString "n", c1), (Str.ofString "script", c0)])) (LawEnd h₀ L s) E s := by
  refine step_stays (blk7 st7 h7 _ hsc _ _ _ _ _ _ _ _ _ _ _ _ _ _ _ _ _ _ _ _ _ _ _ _ _ _ _ _ _ _ _ _ _ _ _ _ _ _ _ _ _ _ _ _ _ _ _ _ _ _ _ _ _ _ _ B hS X T hdp hun hsi hsb hsl hc0 hd0 hc1 hd1 hc2 hd2 hc3 hd3 hc4 hd4 h1n hn hq hq2 hnb hr hrows hm0 hm1 hm2 hi0 hi1 hi2 hl0 hl1 hl2 hb0 hb1 hb2 hmq hm_1 hm_2 hm_3 hp1 hp2 hp3 F N) fun h' tk' F N => ?_
  refine step_stays (blk8 st8 h8 _ hsc _ _ _ _ _ _ _ _ _ _ _ _ _ _ _ _ _ _ _ _ _ _ _ _ _ _ _ _ _ _ _ _ _ _ _ _ _ _ _ _ _ _ _ _ _ _ _ _ _ _ _ _ _ _ _ B hS X T hdp hun hsi hsb hsl hc0 hd0 hc1 hd1 hc2 hd2 hc3 hd3 hc4 hd4 h1n hn hq hq2 hnb hr hrows hm0 hm1 hm2 hi0 hi1 hi2 hl0 hl1 hl2 hb0 hb1 hb2 hmq hm_1 hm_2 hm_3 hp1 hp2 hp3 F N) fun h' tk' F N => ?_
  refine step_stays (blk9 st9 h9 _ hsc _ _ _ _ _ _ _ _ _ _ _ _ _ _ _ _ _ _ _ _ _ _ _ _ _ _ _ _ _ _ _ _ _ _ _ _ _ _ _ _ _ _ _ _ _ _ _ _ _ _ _ _ _ _ _ B hS X T hdp hun hsi hsb hsl hc0 hd0 hc1 hd1 hc2 hd2 hc3 hd3 hc4 hd4 h1n hn hq hq2 hnb hr hrows hm0 hm1 hm2 hi0 hi1 hi2 hl0 hl1 hl2 hb0 hb1 hb2 hmq hm_1 hm_2 hm_3 hp1 hp2 hp3 F N) fun h' tk' F N => ?_
  refine step_stays (blk10 st10 h10 _ hsc _ _ _ _ _ _ _ _ _ _ _ _ _ _ _ _ _ _ _ _ _ _ _ _ _ _ _ _ _ _ _ _ _ _ _ _ _ _ _ _ _ _ _ _ _ _ _ _ _ _ _ _ _ _ _ B hS X T hdp hun hsi hsb hsl hc0 hd0 hc1 hd1 hc2 hd2 hc3 hd3 hc4 hd4 h1n hn hq hq2 hnb hr hrows hm0 hm1 hm2 hi0 hi1 hi2 hl0 hl1 hl2 hb0 hb1 hb2 hmq hm_1 hm_2 hm_3 hp1 hp2 hp3 F N) fun h' tk' F N => ?_
  refine step_sets (blk11 st11 h11 _ hsc _ _ _ _ _ _ _ _ _ _ _ _ _ _ _ _ _ _ _ _ _ _ _ _ _ _ _ _ _ _ _ _ _ _ _ _ _ _ _ _ _ _ _ _ _ _ _ _ _ _ _ _ _ _ _ B hS X T hdp hun hsi hsb hsl hc0 hd0 hc1 hd1 hc2 hd2 hc3 hd3 hc4 hd4 h1n hn hq hq2 hnb hr hrows hm0 hm1 hm2 hi0 hi1 hi2 hl0 hl1 hl2 hb0 hb1 hb2 hmq hm_1 hm_2 hm_3 hp1 hp2 hp3 F N) fun h' tk' vp nw F N S hv => ?_
  have hpp := hv; clear hv
  obtain ⟨m, hm⟩ : ∃ m₂, m₂ = fun z => if z = Str.ofString "product" then some vp else m z := ⟨_, rfl⟩
  rw [← hm] at F
  replace hmq := (congrFun hm _).trans ((if_neg (by decide)).trans hmq)
  replace hm_1 := (congrFun hm _).trans ((if_neg (by decide)).trans hm_1)
  replace hm_2 := (congrFun hm _).trans ((if_neg (by decide)).trans hm_2)
  replace hm_3 := (congrFun hm _).trans ((if_neg (by decide)).trans hm_3)
  have hm_p : m (Str.ofString "product") = some vp := (congrFun hm _).trans (if_pos rfl)
  clear hm
  replace hc0 := S _ hc0
  replace hc1 := S _ hc1
  replace hc2 := S _ hc2
  replace hc3 := S _ hc3
  replace hc4 := S _ hc4
  replace hrows := S _ hrows
  replace hm0 := S _ hm0
  replace hm1 := S _ hm1
  replace hm2 := S _ hm2
  replace hr := hr.mono S
  replace hp1 := hp1.mono S
  replace hp2 := hp2.mono S
  replace hp3 := hp3.mono S
  clear S
  refine step_stays (blk12 st12 h12 _ hsc _ _ _ _ _ _ _ _ _ _ _ _ _ _ _ _ _ _ _ _ _ _ _ _ _ _ _ _ _ _ _ _ _ _ _ _ _ _ _ _ _ _ _ _ _ _ _ _ _ _ _ _ _ _ _ B hS X T hdp hun hsi hsb hsl hc0 hd0 hc1 hd1 hc2 hd2 hc3 hd3 hc4 hd4 h1n hn hq hq2 hnb hr hrows hm0 hm1 hm2 hi0 hi1 hi2 hl0 hl1 hl2 hb0 hb1 hb2 hmq hm_1 hm_2 hm_3 hp1 hp2 hp3 _ hm_p hpp F N) fun h' tk' F N => ?_
  refine step_stays (blk13 st13 h13 _ hsc _ _ _ _ _ _ _ _ _ _ _ _ _ _ _ _ _ _ _ _ _ _ _ _ _ _ _ _ _ _ _ _ _ _ _ _ _ _ _ _ _ _ _ _ _ _ _ _ _ _ _ _ _ _ _ B hS X T hdp hun hsi hsb hsl hc0 hd0 hc1 hd1 hc2 hd2 hc3 hd3 hc4 hd4 h1n hn hq hq2 hnb hr hrows hm0 hm1 hm2 hi0 hi1 hi2 hl0 hl1 hl2 hb0 hb1 hb2 hmq hm_1 hm_2 hm_3 hp1 hp2 hp3 _ hm_p hpp F N) fun h' tk' F N => ?_
  refine step_stays (blk14 st14 h14 _ hsc _ _ _ _ _ _ _ _ _ _ _ _ _ _ _ _ _ _ _ _ _ _ _ _ _ _ _ _ _ _ _ _ _ _ _ _ _ _ _ _ _ _ _ _ _ _ _ _ _ _ _ _ _ _ _ B hS X T hdp hun hsi hsb hsl hc0 hd0 hc1 hd1 hc2 hd2 hc3 hd3 hc4 hd4 h1n hn hq hq2 hnb hr hrows hm0 hm1 hm2 hi0 hi1 hi2 hl0 hl1 hl2 hb0 hb1 hb2 hmq hm_1 hm_2 hm_3 hp1 hp2 hp3 F N) fun h' tk' F N => ?_
  refine step_sets (blk15 st15 h15 _ hsc _ _ _ _ _ _ _ _ _ _ _ _ _ _ _ _ _ _ _ _ _ _ _ _ _ _ _ _ _ _ _ _ _ _ _ _ _ _ _ _ _ _ _ _ _ _ _ _ _ _ _ _ _ _ _ B hS X T hdp hun hsi hsb hsl hc0 hd0 hc1 hd1 hc2 hd2 hc3 hd3 hc4 hd4 h1n hn hq hq2 hnb hr hrows hm0 hm1 hm2 hi0 hi1 hi2 hl0 hl1 hl2 hb0 hb1 hb2 hmq hm_1 hm_2 hm_3 hp1 hp2 hp3 F N) fun h' tk' vr nw F N S hv => ?_
  have hpr := hv; clear hv
  obtain ⟨m, hm⟩ : ∃ m₂, m₂ = fun z => if z = Str.ofString "rests" then some vr else m z := ⟨_, rfl⟩
  rw [← hm] at F
  replace hmq := (congrFun hm _).trans ((if_neg (by decide)).trans hmq)
  replace hm_1 := (congrFun hm _).trans ((if_neg (by decide)).trans hm_1)
  replace hm_2 := (congrFun hm _).trans ((if_neg (by decide)).trans hm_2)
  replace hm_3 := (congrFun hm _).trans ((if_neg (by decide)).trans hm_3)
  replace hm_p := (congrFun hm _).trans ((if_neg (by decide)).trans hm_p)
  have hm_r : m (Str.ofString "rests") = some vr := (congrFun hm _).trans (if_pos rfl)
  clear hm
  replace hc0 := S _ hc0
  replace hc1 := S _ hc1
  replace hc2 := S _ hc2
  replace hc3 := S _ hc3
  replace hc4 := S _ hc4
  replace hrows := S _ hrows
  replace hm0 := S _ hm0
  replace hm1 := S _ hm1
  replace hm2 := S _ hm2
  replace hr := hr.mono S
  replace hp1 := hp1.mono S
  replace hp2 := hp2.mono S
  replace hp3 := hp3.mono S
  replace hpp := hpp.mono S
  clear S
  refine step_stays (blk16 st16 h16 _ hsc _ _ _ _ _ _ _ _ _ _ _ _ _ _ _ _ _ _ _ _ _ _ _ _ _ _ _ _ _ _ _ _ _ _ _ _ _ _ _ _ _ _ _ _ _ _ _ _ _ _ _ _ _ _ _ B hS X T hdp hun hsi hsb hsl hc0 hd0 hc1 hd1 hc2 hd2 hc3 hd3 hc4 hd4 h1n hn hq hq2 hnb hr hrows hm0 hm1 hm2 hi0 hi1 hi2 hl0 hl1 hl2 hb0 hb1 hb2 hmq hm_1 hm_2 hm_3 hp1 hp2 hp3 _ hm_r hpr F N) fun h' tk' F N => ?_
  refine step_sets (blk17 st17 h17 _ hsc _ _ _ _ _ _ _ _ _ _ _ _ _ _ _ _ _ _ _ _ _ _ _ _ _ _ _ _ _ _ _ _ _ _ _ _ _ _ _ _ _ _ _ _ _ _ _ _ _ _ _ _ _ _ _ B hS X T hdp hun hsi hsb hsl hc0 hd0 hc1 hd1 hc2 hd2 hc3 hd3 hc4 hd4 h1n hn hq hq2 hnb hr hrows hm0 hm1 hm2 hi0 hi1 hi2 hl0 hl1 hl2 hb0 hb1 hb2 hmq hm_1 hm_2 hm_3 hp1 hp2 hp3 F N) fun h' tk' v1x nw F N S hv => ?_
  obtain ⟨e1, te1, rfl, he1⟩ := hv
  obtain ⟨m, hm⟩ : ∃ m₂, m₂ = fun z => if z = Str.ofString "first" then some (Value.int (e1 : Int) te1) else m z := ⟨_, rfl⟩
  rw [← hm] at F
  replace hmq := (congrFun hm _).trans ((if_neg (by decide)).trans hmq)
  replace hm_1 := (congrFun hm _).trans ((if_neg (by decide)).trans hm_1)
  replace hm_2 := (congrFun hm _).trans ((if_neg (by decide)).trans hm_2)
  replace hm_3 := (congrFun hm _).trans ((if_neg (by decide)).trans hm_3)
  replace hm_p := (congrFun hm _).trans ((if_neg (by decide)).trans hm_p)
  replace hm_r := (congrFun hm _).trans ((if_neg (by decide)).trans hm_r)
  have hm_f : m (Str.ofString "first") = some (Value.int (e1 : Int) te1) := (congrFun hm _).trans (if_pos rfl)
  clear hm
  replace hc0 := S _ hc0
  replace hc1 := S _ hc1
  replace hc2 := S _ hc2
  replace hc3 := S _ hc3
  replace hc4 := S _ hc4
  replace hrows := S _ hrows
  replace hm0 := S _ hm0
  replace hm1 := S _ hm1
  replace hm2 := S _ hm2
  replace hr := hr.mono S
  replace hp1 := hp1.mono S
  replace hp2 := hp2.mono S
  replace hp3 := hp3.mono S
  replace hpp := hpp.mono S
  replace hpr := hpr.mono S
  clear S
  refine step_sets (blk18 st18 h18 _ hsc _ _ _ _ _ _ _ _ _ _ _ _ _ _ _ _ _ _ _ _ _ _ _ _ _ _ _ _ _ _ _ _ _ _ _ _ _ _ _ _ _ _ _ _ _ _ _ _ _ _ _ _ _ _ _ B hS X T hdp hun hsi hsb hsl hc0 hd0 hc1 hd1 hc2 hd2 hc3 hd3 hc4 hd4 h1n hn hq hq2 hnb hr hrows hm0 hm1 hm2 hi0 hi1 hi2 hl0 hl1 hl2 hb0 hb1 hb2 hmq hm_1 hm_2 hm_3 hp1 hp2 hp3 F N) fun h' tk' v2x nw F N S hv => ?_
  obtain ⟨e2, te2, rfl, he2⟩ := hv
  obtain ⟨m, hm⟩ : ∃ m₂, m₂ = fun z => if z = Str.ofString "second" then some (Value.int (e2 : Int) te2) else m z := ⟨_, rfl⟩
  rw [← hm] at F
  replace hmq := (congrFun hm _).trans ((if_neg (by decide)).trans hmq)
  replace hm_1 := (congrFun hm _).trans ((if_neg (by decide)).trans hm_1)
  replace hm_2 := (congrFun hm _).trans ((if_neg (by decide)).trans hm_2)
  replace hm_3 := (congrFun hm _).trans ((if_neg (by decide)).trans hm_3)
  replace hm_p := (congrFun hm _).trans ((if_neg (by decide)).trans hm_p)
  replace hm_r := (congrFun hm _).trans ((if_neg (by decide)).trans hm_r)
  replace hm_f := (congrFun hm _).trans ((if_neg (by decide)).trans hm_f)
  have hm_s : m (Str.ofString "second") = some (Value.int (e2 : Int) te2) := (congrFun hm _).trans (if_pos rfl)
  clear hm
  replace hc0 := S _ hc0
  replace hc1 := S _ hc1
  replace hc2 := S _ hc2
  replace hc3 := S _ hc3
  replace hc4 := S _ hc4
  replace hrows := S _ hrows
  replace hm0 := S _ hm0
  replace hm1 := S _ hm1
  replace hm2 := S _ hm2
  replace hr := hr.mono S
  replace hp1 := hp1.mono S
  replace hp2 := hp2.mono S
  replace hp3 := hp3.mono S
  replace hpp := hpp.mono S
  replace hpr := hpr.mono S
  clear S
  refine step_sets (blk19 st19 h19 _ hsc _ _ _ _ _ _ _ _ _ _ _ _ _ _ _ _ _ _ _ _ _ _ _ _ _ _ _ _ _ _ _ _ _ _ _ _ _ _ _ _ _ _ _ _ _ _ _ _ _ _ _ _ _ _ _ B hS X T hdp hun hsi hsb hsl hc0 hd0 hc1 hd1 hc2 hd2 hc3 hd3 hc4 hd4 h1n hn hq hq2 hnb hr hrows hm0 hm1 hm2 hi0 hi1 hi2 hl0 hl1 hl2 hb0 hb1 hb2 hmq hm_1 hm_2 hm_3 hp1 hp2 hp3 _ _ _ _ hm_f hm_s he1 he2 F N) fun h' tk' vw nw F N S hv => ?_
  have hpw := hv; clear hv
  obtain ⟨m, hm⟩ : ∃ m₂, m₂ = fun z => if z = Str.ofString "power" then some vw else m z := ⟨_, rfl⟩
  rw [← hm] at F
  replace hmq := (congrFun hm _).trans ((if_neg (by decide)).trans hmq)
  replace hm_1 := (congrFun hm _).trans ((if_neg (by decide)).trans hm_1)
  replace hm_2 := (congrFun hm _).trans ((if_neg (by decide)).trans hm_2)
  replace hm_3 := (congrFun hm _).trans ((if_neg (by decide)).trans hm_3)
  replace hm_p := (congrFun hm _).trans ((if_neg (by decide)).trans hm_p)
  replace hm_r := (congrFun hm _).trans ((if_neg (by decide)).trans hm_r)
  replace hm_f := (congrFun hm _).trans ((if_neg (by decide)).trans hm_f)
  replace hm_s := (congrFun hm _).trans ((if_neg (by decide)).trans hm_s)
  have hm_w : m (Str.ofString "power") = some vw := (congrFun hm _).trans (if_pos rfl)
  clear hm
  replace hc0 := S _ hc0
  replace hc1 := S _ hc1
  replace hc2 := S _ hc2
  replace hc3 := S _ hc3
  replace hc4 := S _ hc4
  replace hrows := S _ hrows
  replace hm0 := S _ hm0
  replace hm1 := S _ hm1
  replace hm2 := S _ hm2
  replace hr := hr.mono S
  replace hp1 := hp1.mono S
  replace hp2 := hp2.mono S
  replace hp3 := hp3.mono S
  replace hpp := hpp.mono S
  replace hpr := hpr.mono S
  clear S
  refine step_stays (blk20 st20 h20 _ hsc _ _ _ _ _ _ _ _ _ _ _ _ _ _ _ _ _ _ _ _ _ _ _ _ _ _ _ _ _ _ _ _ _ _ _ _ _ _ _ _ _ _ _ _ _ _ _ _ _ _ _ _ _ _ _ B hS X T hdp hun hsi hsb hsl hc0 hd0 hc1 hd1 hc2 hd2 hc3 hd3 hc4 hd4 h1n hn hq hq2 hnb hr hrows hm0 hm1 hm2 hi0 hi1 hi2 hl0 hl1 hl2 hb0 hb1 hb2 hmq hm_1 hm_2 hm_3 hp1 hp2 hp3 _ _ _ _ hm_f hm_s he1 he2 _ hm_w hpw F N) fun h' tk' F N => ?_
  refine step_stays (blk21 st21 h21 _ hsc _ _ _ _ _ _ _ _ _ _ _ _ _ _ _ _ _ _ _ _ _ _ _ _ _ _ _ _ _ _ _ _ _ _ _ _ _ _ _ _ _ _ _ _ _ _ _ _ _ _ _ _ _ _ _ B hS X T hdp hun hsi hsb hsl hc0 hd0 hc1 hd1 hc2 hd2 hc3 hd3 hc4 hd4 h1n hn hq hq2 hnb hr hrows hm0 hm1 hm2 hi0 hi1 hi2 hl0 hl1 hl2 hb0 hb1 hb2 hmq hm_1 hm_2 hm_3 hp1 hp2 hp3 _ _ _ _ hm_f hm_s he1 he2 F N) fun h' tk' F N => ?_
  refine step_stays (blk22 st22 h22 _ hsc _ _ _ _ _ _ _ _ _ _ _ _ _ _ _ _ _ _ _ _ _ _ _ _ _ _ _ _ _ _ _ _ _ _ _ _ _ _ _ _ _ _ _ _ _ _ _ _ _ _ _ _ _ _ _ B hS X T hdp hun hsi hsb hsl hc0 hd0 hc1 hd1 hc2 hd2 hc3 hd3 hc4 hd4 h1n hn hq hq2 hnb hr hrows hm0 hm1 hm2 hi0 hi1 hi2 hl0 hl1 hl2 hb0 hb1 hb2 hmq hm_1 hm_2 hm_3 hp1 hp2 hp3 hbase hout _ _ _ _ hm_f hm_s he1 he2 F N) fun h' tk' F N => ?_
  refine step_stays (blk23 st23 h23 _ hsc _ _ _ _ _ _ _ _ _ _ _ _ _ _ _ _ _ _ _ _ _ _ _ _ _ _ _ _ _ _ _ _ _ _ _ _ _ _ _ _ _ _ _ _ _ _ _ _ _ _ _ _ _ _ _ B hS X T hdp hun hsi hsb hsl hc0 hd0 hc1 hd1 hc2 hd2 hc3 hd3 hc4 hd4 h1n hn hq hq2 hnb hr hrows hm0 hm1 hm2 hi0 hi1 hi2 hl0 hl1 hl2 hb0 hb1 hb2 hmq hm_1 hm_2 hm_3 hp1 hp2 hp3 F N) fun h' tk' F N => ?_
  refine wpAny_execs_cons (wpAny_mono (blk24 st24 h24 _ hsc _ _ _ _ _ _ _ _ _ _ _ _ _ _ _ _ _ _ _ _ _ _ _ _ _ _ _ _ _ _ _ _ _ _ _ _ _ _ _ _ _ _ _ _ _ _ _ _ _ _ _ _ _ _ _ B hS X T hdp hun hsi hsb hsl hc0 hd0 hc1 hd1 hc2 hd2 hc3 hd3 hc4 hd4 h1n hn hq hq2 hnb hr hrows hm0 hm1 hm2 hi0 hi1 hi2 hl0 hl1 hl2 hb0 hb1 hb2 hmq hm_1 hm_2 hm_3 hp1 hp2 hp3 F N) (fun f s' h => ?_) fun _ _ e => e)
  obtain ⟨rfl, h', tk', rfl, F⟩ := h
  exact ⟨rfl, _, _, _, rfl, F⟩
section
local macro_rules | `(tactic| walk_at "eval Call") => `(tactic| (k_here; (with_reducible show wpAny _ _ (eval (Expr.Call (Expr.Name _ _) _ [] _) _) _ _ _); k_dflt (refine Call_ ?_)))
local macro_rules | `(tactic| walk_at "eval Name") => `(tactic| (k_here; k_dflt (refine' nameX_L ?F ?v ?_ ?a ?b; (case F => k_asm); (case a => rfl); (case b => rfl); (case v => assumption); k_whole)))
local macro_rules | `(tactic| walk_at "call ref") => `(tactic| (k_here; (with_reducible show wpAny _ _ (call (Value.ref 231) _) _ _ _); k_dflt (refine wpAny_call ?_; refine' SpecS.use (cell_spec _ _ _ _ _ _ _ _ ?zhsi ?zhsb ?zhsl _ _ ?zhk0 ?zhk1) ?zB ?zhS ?zF ?zX ?zN ?zT ?zhk ?zhd ?zhu ?_; (case zB | zhS | zF | zX | zN | zT => k_asm); (case zhk => first | exact rfl | assumption); (case zhd => ktr_room); (case zhu => ktr_units); (case zhsi => assumption); (case zhsb => assumption); (case zhsl => omega); (case zhk0 | zhk1 => omega)); k_dflt (intro r' nw' h' tk' F' N' S' O'; obtain ⟨x', t', e', x0', xb'⟩ := O'; subst e'; (replace N' := newsDown N' S'); clear S'); k_dflt (first | refine cmpBack_ref ?_ | refine cmpBack_bool ?_ | skip); (try k_sweep)))
local macro_rules | `(tactic| walk_at "call ref") => `(tactic| (k_here; (with_reducible show wpAny _ _ (call (Value.ref 245) _) _ _ _); k_dflt (refine wpAny_call ?_; refine' SpecS.use (numbers_spec _ _ _ _ _ _ _ _ ?zhsi ?zhsb ?zhsl _ _ _ _ ?zhk0 ?zhk1 ?zhsz) ?zB ?zhS ?zF ?zX ?zN ?zT ?zhk ?zhd ?zhu ?_; (case zB | zhS | zF | zX | zN | zT => k_asm); (case zhk => first | exact rfl | assumption); (case zhd => ktr_room); (case zhu => ktr_units); (case zhsi => assumption); (case zhsb => assumption); (case zhsl => omega); (case zhk0 | zhk1 | zhsz => omega)); k_dflt (intro r' nw' h' tk' F' N' S' O'; obtain ⟨ns', ⟨l', vs', k', e1', m1', i1', n1'⟩, hl', hv'⟩ := O'; subst e1'; have o1n' := off1_of n1'; (try simp only [LCg.Off1, and_true] at o1n')); k_dflt (first | refine cmpBack_ref ?_ | refine cmpBack_bool ?_ | skip); (try k_sweep)))
local macro_rules | `(tactic| walk_at "CompSrc") => `(tactic| (refine halt_of ?_))
local macro_rules | `(tactic| walk_at "call type:list") => `(tactic| (k_here; (with_reducible show wpAny _ _ (call (Value.type _) [Value.ref _]) _ _ _); k_dflt (refine' list_L ?F ?N ?m ?_ ?hsz; (case F => k_asm); (case N => k_asm); (case m => k_mem); (case hsz => (have hI := IntsAre.length (by assumption : IntsAre _ _)); rw [PySem.sizeLine_eq]; (try simp only [List.length_cons] at hI); omega)); intro l' c' h' F' N' l1; (try k_lt l1); (try k_sweep)))
local macro_rules | `(tactic| walk_at "call ref") => `(tactic| (k_here; (with_reducible show wpAny _ _ (call (Value.ref _) _) _ _ _); kco_here; k_dflt (refine wpAny_call ?_; refine' kco_code ?k1 ?k2 ?k3 ?k4 ?k5 ?k6 ?_; (case k1 => k_in); (case k2 => k_inst); (case k3 => rfl); (case k4 => k_is); (case k5 => k_is); (case k6 => k_is); (try dsimp only); (refine' Spec.use (ring_specN _ _ _ _ _ _ _ _ _ _ _ _ ?zhr ?zhm ?zhi ?zhlen ?zhn) ?zB ?zF ?zX ?zN ?zT ?zhk ?zhd ?zhu ?_; (case zB | zF | zX | zN | zT => k_asm); (case zhk => first | exact rfl | assumption); (case zhd => ktr_room); (case zhu => ktr_units); (case zhr => exact RingIn.mk' (by k_mem) (by k_mem)); (case zhm => k_mem); (case zhi => first | assumption | l_ints); (case zhlen => assumption); (case zhn => omega)); k_dflt (intro r' nw' h' tk' F' N' S' O'; obtain ⟨f', d', h1', k1', h2', k2', c', e1', m1', m2', fd', nf', nd'⟩ := O'; subst e1'); (try k_sweep))))
local macro_rules | `(tactic| walk_at "execs cons") => `(tactic| (k_here; (with_reducible show wpAny _ _ (execs (Stmt.If _ _ _ _ :: _) (envX _ _ _ _ _ _)) _ _ _); refine halt_of ?_))
local macro_rules | `(tactic| walk_at "execs cons") => `(tactic| (k_here; (with_reducible show wpAny _ _ (execs (Stmt.Assign [Expr.Name "ring" _] _ _ :: _) (envX _ _ _ _ _ _)) _ _ _); (fail_if_success (have : ∃ n : Nat, 1 ≤ n ∧ n ≤ 10 := ⟨_, by assumption, by assumption⟩)); refine halt_of ?_))
theorem walkOff39 : True := by
  w_top off
  trivial
set_option maxHeartbeats 4000000 in
theorem law_setup (body : List Stmt) (hst : lawBody? PySem.Challenge.rw_xy0002_02.row.toRowW.prog = some body) (scope : Scope) (hsc : lawScope? PySem.Challenge.rw_xy0002_02.row.toRowW.prog = some scope)
    (w : World) (mean : ExcName → Option Value) (mg mb : Str → Option Value) (dp un : Nat) (gd : Option (List Code)) (a : Addr) (ccd : Value) (A₀ : Around) (h₀ : Heap) (L : Addr) (m : Str → Option Value) (s : Shared) (E : Value → Shared → Prop)
    (sl : Addr) (o0 o1 o2 o3 o4 : Obj) (svs : List Value) (sns : List Int)
    (B : Below A₀ h₀ [] h₀) (hS : h₀.IsList sl svs.toArray) (X : (hd02.heap_39 w.params).In h₀) (T : Top Mine02.view (looseW Mine02.view []) mean mg mb h₀) (hdp : dp + 100 < recursionLimit) (hun : un + 800 < cLine)
    (hsi : IntsAre svs sns) (hsb : ∀ x ∈ sns, Builtin.Int.intBits x ≤ 2 ^ 20) (hsl : sns.length ≤ 63)
    (hd0 : o0.data = .cell (some (.ref sl))) (hd1 : o1.data = .cell none) (hd2 : o2.data = .cell none) (hd3 : o3.data = .cell none) (hd4 : o4.data = .cell none)
    (F : Fr h₀ L s.heap m) (N : News h₀ L s.heap [(L + 1 + 1 + 1 + 1 + 1, o4), (L + 1 + 1 + 1 + 1, o3), (L + 1 + 1 + 1, o2), (L + 1 + 1, o1), (L + 1, o0)]) :
    wpAny (model PySem.Challenge.rw_xy0002_02.row.toRowW.prog w) (ktrTop dp un gd (Str.ofString "law") scope L a ccd [(Str.ofString "number", L + 1 + 1 + 1 + 1 + 1), (Str.ofString "rows", L + 1 + 1 + 1 + 1), (Str.ofString "ring", L + 1 + 1 + 1), (Str.ofString "n", L + 1 + 1), (Str.ofString "script", L + 1)] []) (execs body (envX (Str.ofString "law") scope L a ccd [(Str.ofString "number", L + 1 + 1 + 1 + 1 + 1), (Str.ofString "rows", L + 1 + 1 + 1 + 1), (Str.ofString "ring", L + 1 + 1 + 1), (Str.ofString "n", L + 1 + 1), (Str.ofString "script", L + 1)])) (LawEnd h₀ L s) E s := by
  obtain rfl : _ = body := Option.some.inj (hst : some _ = some body)
  obtain rfl : _ = scope := Option.some.inj (hsc : some _ = some scope)
  clear hst hsc
  revert X; k_fill; intro X
  k_steps
  unfold Halt
  rename Obj.data _ = Data.cell (some (Value.int (1 + Int.fmod _ 10) _)) => hdn
  obtain ⟨n, hn, h1n, hn10⟩ := nat_of10 hdn
  simp only [hn] at *
  rename Fr h₀ L _ (fun y => if y = Str.ofString "q" then _ else _) => Fq
  obtain ⟨q, hq, hq2, hq3⟩ := q_of Fq
  simp only [hq] at *
  k_steps
  unfold Halt
  rename Obj.data _ = Data.cell (some (Value.ref _)) => hdr
  obtain ⟨rg, erg⟩ := ref_of hdr
  subst erg
  refine LCg.CompSrc.range (by rfl) (by k_asm) (by k_asm) (by assumption) (by first | decide | rfl) (by first | rfl | decide) (by first | size_fits | exact Nat.le_of_ble_eq_true rfl) ?_
  intro g1
  refine comp_new (n := 3) (fun i ys nw => ys.length = i ∧ ∀ y ∈ ys, ∃ ns, ListIn nw y ns ∧ ns.length = n ∧ ∀ x ∈ ns, Builtin.Int.intBits x ≤ 2 ^ 20) trivial (fun _ _ _ _ => trivial) ⟨rfl, by simp⟩ (fun i v I oI C oC D m₂ ys nw h tk E' hi hv hR hs hC hx F' N' off ne => ?turn) (fun ys nw hR hs => ?fin)
  case turn =>
    obtain ⟨t, rfl⟩ := hv
    k_steps
    refine CEnd.intro (by k_asm) (by k_asm) (by assumption) [(_, _)] (fun p hp => by rw [List.mem_singleton.mp hp]; assumption) (fun p hp => ?_) ⟨by rw [List.length_append, hR.1]; rfl, fun y hy => ?_⟩
    · rw [List.mem_singleton.mp hp]
      rename ∀ p ∈ ((_ :: _ : Led)), p.1 ≠ _ => n1
      exact ⟨Ne.symm (n1 _ List.mem_cons_self), Ne.symm (n1 _ (List.mem_cons_of_mem _ List.mem_cons_self)), Ne.symm (n1 _ (List.mem_cons_of_mem _ (List.mem_cons_of_mem _ List.mem_cons_self)))⟩
    · rcases List.mem_append.mp hy with hy | hy
      · obtain ⟨ns, h1, h2⟩ := hR.2 y hy
        exact ⟨ns, h1.mono (fun p hp => List.mem_append_right _ hp), h2⟩
      · rw [List.mem_singleton.mp hy]
        exact ⟨_, ⟨_, _, _, rfl, List.mem_append_left _ (List.mem_singleton.mpr rfl), by assumption⟩, by assumption, by assumption⟩
  case fin =>
    obtain ⟨hl, hy⟩ := hR
    obtain ⟨y0, y1, y2, rfl⟩ : ∃ y0 y1 y2, ys = [y0, y1, y2] := by
      match ys, hl with
      | [a, b, c], _ => exact ⟨a, b, c, rfl⟩
    obtain ⟨r0, ⟨l0, vs0, k0, rfl, hm0, hi0⟩, hl0, hb0⟩ := hy y0 (by simp)
    obtain ⟨r1, ⟨l1, vs1, k1, rfl, hm1, hi1⟩, hl1, hb1⟩ := hy y1 (by simp)
    obtain ⟨r2, ⟨l2, vs2, k2, rfl, hm2, hi2⟩, hl2, hb2⟩ := hy y2 (by simp)
    clear hy hl
    unfold LCg.FinE
    intro D h tk F3 N3 o3
    have od3 := off1_sub o3 hs
    have a0 : @Ne Nat l0 D := off1_mem o3 _ hm0
    have a1 : @Ne Nat l1 D := off1_mem o3 _ hm1
    have a2 : @Ne Nat l2 D := off1_mem o3 _ hm2
    simp only [LCg.Off1, and_true] at od3
    have N4 := news_rows N3 hm0 hm1 hm2 hs
    have c30 := ne_cell N4 (a := L + 1 + 1 + 1 + 1) (b := l0) (by k_mem) (by k_mem) hd3 rfl
    have c31 := ne_cell N4 (a := L + 1 + 1 + 1 + 1) (b := l1) (by k_mem) (by k_mem) hd3 rfl
    have c32 := ne_cell N4 (a := L + 1 + 1 + 1 + 1) (b := l2) (by k_mem) (by k_mem) hd3 rfl
    have c40 := ne_cell N4 (a := L + 1 + 1 + 1 + 1 + 1) (b := l0) (by k_mem) (by k_mem) hd4 rfl
    have c41 := ne_cell N4 (a := L + 1 + 1 + 1 + 1 + 1) (b := l1) (by k_mem) (by k_mem) hd4 rfl
    have c42 := ne_cell N4 (a := L + 1 + 1 + 1 + 1 + 1) (b := l2) (by k_mem) (by k_mem) hd4 rfl
    clear N3 hs o3 hm0 hm1 hm2
    k_steps
    unfold Halt
    refine LCg.CompSrc.ledger (by rfl) (by k_asm) (by k_asm) (by k_mem) (by first | size_fits | exact Nat.le_of_ble_eq_true rfl) ?_
    intro g2
    refine comp_new (n := 3) (fun i ys nw => ys.length = i ∧ ∀ (j : Nat) (y : Value) (r : List Int), ys[j]? = some y → ([r0, r1, r2] : List (List Int))[j]? = some r → PolyIn nw y rg r) (by lcg_src) srcMono ⟨rfl, by simp⟩ (fun i v I oI C oC D m₂ ys nw h tk E' hi hv hR hs hC hx F' N' off ne => ?turn2) (fun ys nw hR hs => ?fin2)
    case turn2 =>
      obtain ⟨l, vs, k, r, rfl, hml, hil, hll, hrr⟩ := row_of3 (by k_mem) (by k_mem) (by k_mem) hi0 hi1 hi2 hl0 hl1 hl2 (by simpa using hv)
      k_steps
      rename ∀ p ∈ ((_ :: _ : Led)), p.1 ≠ _ => nd1
      revert nd1
      rename ∀ p ∈ ((_ :: _ : Led)), p.1 ≠ _ => nf1
      intro nd1
      rename _ < _ ∧ _ < _ ∧ _ < _ ∧ AllLt _ _ => lt1
      rename Sub _ _ => S1
      rename (_, instObj _ _) ∈ _ => mf1
      rename (_, W.dictOf [_, _] _) ∈ _ => md1
      refine CEnd.intro3 (by k_asm) (by k_asm) (fun p hp => S1 _ (List.mem_cons_of_mem _ hp)) mf1 md1 (S1 _ List.mem_cons_self)
        (off_of4 nf1) (off_of4 nd1) ⟨Nat.ne_of_gt lt1.1, Nat.ne_of_gt lt1.2.1, Nat.ne_of_gt lt1.2.2.1⟩
        ⟨by rw [List.length_append, hR.1]; rfl, fun j y r' hj hr' => ?_⟩
      by_cases hji : j < i
      · rw [List.getElem?_append_left (by omega)] at hj
        exact (hR.2 j y r' hj hr').mono (fun p hp => List.mem_append_right _ hp)
      · have e : j = i := by
          have h9 := (List.getElem?_eq_some_iff.mp hj).1
          rw [List.length_append, List.length_singleton, hR.1] at h9
          omega
        subst e
        rw [List.getElem?_append_right (by omega), hR.1, Nat.sub_self] at hj
        obtain rfl := Option.some.inj hj
        obtain rfl := Option.some.inj (hr'.symm.trans hrr)
        exact ⟨_, _, _, _, _, _, _, _, _, _, rfl, List.mem_append_left _ List.mem_cons_self, List.mem_append_left _ (List.mem_cons_of_mem _ List.mem_cons_self), List.mem_append_left _ (List.mem_cons_of_mem _ (List.mem_cons_of_mem _ List.mem_cons_self)), hil⟩
    case fin2 =>
      obtain ⟨hl, hy⟩ := hR
      obtain ⟨v1, v2, v3, rfl⟩ : ∃ y0 y1 y2, ys = [y0, y1, y2] := by
        match ys, hl with
        | [a, b, c], _ => exact ⟨a, b, c, rfl⟩
      have hp1 := hy 0 _ _ rfl rfl
      have hp2 := hy 1 _ _ rfl rfl
      have hp3 := hy 2 _ _ rfl rfl
      clear hy hl
      rename Obj.data _ = Data.cell (some (Value.ref D)) => hdrows
      unfold LCg.FinE
      intro D2 h2 tk2 F5 N5 o5
      have hn0 : RingIn nw rg q n := ⟨_, _, _, _, _, _, _, _, by k_mem, by k_mem⟩
      obtain ⟨rest, N6, hne6, hin6⟩ := news_at N5 (d := L + 1 + 1 + 1 + 1 + 1) (o := o4) (List.mem_cons_of_mem _ (hs _ (by k_mem)))
      have hin7 : ∀ a o', (a, o') ∈ nw → o' ≠ o4 → (a, o') ∈ rest := fun a o' h e => hin6 a o' (List.mem_cons_of_mem _ h) e
      have hD2 := hin6 D2 (LCg.lst [v1, v2, v3]) List.mem_cons_self (cell_neS hd4)
      replace hp1 := hp1.rest hd4 hin7
      replace hp2 := hp2.rest hd4 hin7
      replace hp3 := hp3.rest hd4 hin7
      replace hn0 := hn0.rest hd4 hin7
      have hm0 : (l0, W.listOf vs0.toArray k0) ∈ rest := hin7 _ _ (hs _ (by k_mem)) (cell_neL hd4 rfl)
      have hm1 : (l1, W.listOf vs1.toArray k1) ∈ rest := hin7 _ _ (hs _ (by k_mem)) (cell_neL hd4 rfl)
      have hm2 : (l2, W.listOf vs2.toArray k2) ∈ rest := hin7 _ _ (hs _ (by k_mem)) (cell_neL hd4 rfl)
      have hmD : (D, LCg.lst [Value.ref l0, Value.ref l1, Value.ref l2]) ∈ rest := hin7 _ _ (hs _ (by k_mem)) (cell_neS hd4)
      have hc0 : (L + 1, o0) ∈ rest := hin7 _ _ (hs _ (by k_mem)) (cell_neC hd4 hd0)
      have hc1 : (L + 1 + 1, _) ∈ rest := hin7 _ _ (hs _ (by k_mem)) (cell_neC hd4 hdn)
      have hc2 : (L + 1 + 1 + 1, _) ∈ rest := hin7 _ _ (hs _ (by k_mem)) (cell_neC hd4 hdr)
      have hc3 : (L + 1 + 1 + 1 + 1, _) ∈ rest := hin7 _ _ (hs _ (by k_mem)) (cell_neC hd4 hdrows)
      clear hin6 hin7 hs
      clear N5 o5
      k_steps
      unfold Halt
      rename Obj.data _ = Data.cell (some (Value.int (_ - 40) _)) => hdnb
      rename Builtin.Int.intBits _ ≤ 2 ^ 20 => hb9
      rename Fr h₀ L _ _ => F6
      rename News h₀ L _ _ => N6'
      refine wpAny_mono (law_rest (gd := _) (a := _) (ccd := _) (E := _) (F := F6) (N := N6') (h7 := rfl) (h8 := rfl) (h9 := rfl) (h10 := rfl) (h11 := rfl) (h12 := rfl) (h13 := rfl) (h14 := rfl) (h15 := rfl) (h16 := rfl) (h17 := rfl) (h18 := rfl) (h19 := rfl) (h20 := rfl) (h21 := rfl) (h22 := rfl) (h23 := rfl) (h24 := rfl) (hsc := rfl) (B := B) (hS := hS) (X := by k_asm) (T := T) (hdp := hdp) (hun := hun) (hsi := hsi) (hsb := hsb) (hsl := hsl) (hc0 := List.mem_cons_of_mem _ hc0) (hd0 := hd0) (hc1 := List.mem_cons_of_mem _ hc1) (hd1 := hdn) (hc2 := List.mem_cons_of_mem _ hc2) (hd2 := hdr) (hc3 := List.mem_cons_of_mem _ hc3) (hd3 := hdrows)
        (hc4 := List.mem_cons_self) (hd4 := hdnb) (h1n := h1n) (hn := hn10) (hq := hq2) (hq2 := hq3) (hnb := bits_sub (a := 2 ^ 20) (b := 64) hb9 (by decide) (by decide) (by decide)) (hr := hn0.mono (fun p hp => List.mem_cons_of_mem _ hp)) (hrows := List.mem_cons_of_mem _ hmD) (hm0 := List.mem_cons_of_mem _ hm0) (hm1 := List.mem_cons_of_mem _ hm1) (hm2 := List.mem_cons_of_mem _ hm2)
        (hi0 := hi0) (hi1 := hi1) (hi2 := hi2) (hl0 := hl0) (hl1 := hl1) (hl2 := hl2) (hb0 := fun x hx => Nat.le_trans (hb0 x hx) (by decide)) (hb1 := fun x hx => Nat.le_trans (hb1 x hx) (by decide)) (hb2 := fun x hx => Nat.le_trans (hb2 x hx) (by decide))
        (hmq := by rfl) (hm_1 := by rfl) (hm_2 := by rfl) (hm_3 := by rfl) (hp1 := hp1.mono (fun p hp => List.mem_cons_of_mem _ hp)) (hp2 := hp2.mono (fun p hp => List.mem_cons_of_mem _ hp)) (hp3 := hp3.mono (fun p hp => List.mem_cons_of_mem _ hp)) (hbase := rfl) (hout := rfl)  ) (fun f s' h => ?_) fun _ _ e => e
      exact h
end
end
theorem walkOff40 : True := by
  w_top off
  trivial
set_option maxHeartbeats 4000000 in
theorem row0 : PySem.Challenge.rw_xy0002_02.Holds := hd02 (by
  k_go0
  rename News _ _ _ _ => N0
  rename Fr _ _ _ _ => F0
  rename Below _ _ _ _ => K0
  rename PyData.layable0 _ = true => hly
  refine wpAny_mono (law_setup (a := _) (ccd := _) (E := _) (dp := 1 + claimMargin + 1) (un := 4 + 3) (gd := some []) (hst := rfl) (hsc := rfl) (B := K0) (hS := by assumption) (X := by assumption) (T := by assumption) (hdp := by decide) (hun := by decide) (hsi := by assumption) (hsb := fun x hx => intBits_le_of_item hx hly) (hsl := by omega) (hd0 := ?hd0) (hd1 := ?hd1) (hd2 := ?hd2) (hd3 := ?hd3) (hd4 := ?hd4) (F := F0) (N := N0)) (fun f s' h => ?_) fun _ _ e => e
  case hd0 => assumption
  case hd1 => assumption
  case hd2 => assumption
  case hd3 => assumption
  case hd4 => assumption
  obtain ⟨rfl, h', tk', m', rfl, F9⟩ := h
  clear F0 N0
  k_steps)
end Mine02
end
theorem PySem.Challenge.cw_xy0002_02_holds : PySem.Challenge.rw_xy0002_02.Holds := by
  exact Mine02.row0
